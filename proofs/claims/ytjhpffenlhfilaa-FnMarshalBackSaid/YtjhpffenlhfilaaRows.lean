/-
  No cell of these rows narrows 'for every input' (looked for: loops, veiled, ifaces, maps, wideKeys, modest, calm, conditions, laid).
  DERIVED. THE GIVEN ROWS OF THIS SEAT. 18 by the template 'for every input the law returns true; each argument reads behind the call as it read before'; 0 by the template 'total and deterministic' (their statements: YtjhpffenlhfilaaTotals.lean).
  GIVEN WITH THE SEED: the statements are not yours to turn. If you find one false, say at which input.
  Laid BY PROGRAM, IN A SANDBOX (cutbox-rows.mjs): the forced cells as the released guide's own fill.sh prints them over the translation eddbd74e8a805db1… (all of the seat's roots in one cut). By AI agents, Wed Nov 11 2026. No macro, syntax, notation, axiom, sorry.
-/
import Derived.Test.YtjhpffenlhfilaaChecked
import GoSem.Claim
import GoSem.ClaimJoined
import GoSem.ClaimMapViews
import Derived.JoinedTies
import Derived.KernelRfl
namespace Go.Proofs.Ytjhpffenlhfilaa
/- THE CELL 'sum', in the pinned program and in every row, IS THE sha256 OF THE DUMP (.gsa) THAT YtjhpffenlhfilaaProg.lean LOADS. Nothing in Lean hashes anything: it is a label: what it is worth is what the hold of that sum in a sandbox is worth. -/
noncomputable def Try.pinned : Pinned := { name := "ytjhpffenlhfilaa", sum := "eddbd74e8a805db138194f7e257b8ce20e9ff5cf339d5924f3bba3c58cdfafe9", checked := Try.checked }
namespace Rows
def none {H : Type} : Left H := { results := [], args := [] }

/-- 'laws.FnExactQuarter': WHATEVER THE INPUT: true; the input reads as it did. -/
def fnExactQuarterSpec : ChangeSpec := { name := "fnExactQuarter", fn := fun _ => fun
  | [d1, d2, d3, d4] => { results := [.lit (.bool true)], args := [d1, d2, d3, d4] }
  | _ => none }
def fnExactQuarterRow : OpenClaim := { program := "ytjhpffenlhfilaa", sum := "eddbd74e8a805db138194f7e257b8ce20e9ff5cf339d5924f3bba3c58cdfafe9", func := "loop.example/pub-g03338/laws.FnExactQuarter", spec := "fnExactQuarter", apart := false }
def FnExactQuarterSaid : Prop := fnExactQuarterRow.holds Try.pinned (OpenSpec.ofChange fnExactQuarterSpec)

/-- ITS FALSE NEIGHBOUR: 'it returns false'. Refute it at one input. -/
def fnExactQuarterWrong : ChangeSpec := { name := "fnExactQuarter", fn := fun _ => fun
  | [d1, d2, d3, d4] => { results := [.lit (.bool false)], args := [d1, d2, d3, d4] }
  | _ => none }
def FnExactQuarterWrongFalsely : Prop := fnExactQuarterRow.holds Try.pinned (OpenSpec.ofChange fnExactQuarterWrong)

/-- 'laws.FnQuarterApart': WHATEVER THE INPUT: true; the input reads as it did. -/
def fnQuarterApartSpec : ChangeSpec := { name := "fnQuarterApart", fn := fun _ => fun
  | [d1, d2] => { results := [.lit (.bool true)], args := [d1, d2] }
  | _ => none }
def fnQuarterApartRow : OpenClaim := { program := "ytjhpffenlhfilaa", sum := "eddbd74e8a805db138194f7e257b8ce20e9ff5cf339d5924f3bba3c58cdfafe9", func := "loop.example/pub-g03338/laws.FnQuarterApart", spec := "fnQuarterApart", apart := false }
def FnQuarterApartSaid : Prop := fnQuarterApartRow.holds Try.pinned (OpenSpec.ofChange fnQuarterApartSpec)

/-- ITS FALSE NEIGHBOUR: 'it returns false'. Refute it at one input. -/
def fnQuarterApartWrong : ChangeSpec := { name := "fnQuarterApart", fn := fun _ => fun
  | [d1, d2] => { results := [.lit (.bool false)], args := [d1, d2] }
  | _ => none }
def FnQuarterApartWrongFalsely : Prop := fnQuarterApartRow.holds Try.pinned (OpenSpec.ofChange fnQuarterApartWrong)

/-- 'laws.FnQuarterBack': WHATEVER THE INPUT: true; the input reads as it did. -/
def fnQuarterBackSpec : ChangeSpec := { name := "fnQuarterBack", fn := fun _ => fun
  | [d1, d2, d3, d4] => { results := [.lit (.bool true)], args := [d1, d2, d3, d4] }
  | _ => none }
def fnQuarterBackRow : OpenClaim := { program := "ytjhpffenlhfilaa", sum := "eddbd74e8a805db138194f7e257b8ce20e9ff5cf339d5924f3bba3c58cdfafe9", func := "loop.example/pub-g03338/laws.FnQuarterBack", spec := "fnQuarterBack", apart := false }
def FnQuarterBackSaid : Prop := fnQuarterBackRow.holds Try.pinned (OpenSpec.ofChange fnQuarterBackSpec)

/-- ITS FALSE NEIGHBOUR: 'it returns false'. Refute it at one input. -/
def fnQuarterBackWrong : ChangeSpec := { name := "fnQuarterBack", fn := fun _ => fun
  | [d1, d2, d3, d4] => { results := [.lit (.bool false)], args := [d1, d2, d3, d4] }
  | _ => none }
def FnQuarterBackWrongFalsely : Prop := fnQuarterBackRow.holds Try.pinned (OpenSpec.ofChange fnQuarterBackWrong)

/-- 'laws.FnUnmarshal': WHATEVER THE INPUT: true; the input reads as it did. -/
def fnUnmarshalSpec : ChangeSpec := { name := "fnUnmarshal", fn := fun _ => fun
  | [d1, d2, d3, d4] => { results := [.lit (.bool true)], args := [d1, d2, d3, d4] }
  | _ => none }
def fnUnmarshalRow : OpenClaim := { program := "ytjhpffenlhfilaa", sum := "eddbd74e8a805db138194f7e257b8ce20e9ff5cf339d5924f3bba3c58cdfafe9", func := "loop.example/pub-g03338/laws.FnUnmarshal", spec := "fnUnmarshal", unfollowed := true, recurses := true, apart := false }
def FnUnmarshalSaid : Prop := fnUnmarshalRow.holds Try.pinned (OpenSpec.ofChange fnUnmarshalSpec)

/-- ITS FALSE NEIGHBOUR: 'it returns false'. Refute it at one input. -/
def fnUnmarshalWrong : ChangeSpec := { name := "fnUnmarshal", fn := fun _ => fun
  | [d1, d2, d3, d4] => { results := [.lit (.bool false)], args := [d1, d2, d3, d4] }
  | _ => none }
def FnUnmarshalWrongFalsely : Prop := fnUnmarshalRow.holds Try.pinned (OpenSpec.ofChange fnUnmarshalWrong)

/-- 'laws.FnMarshalBack': WHATEVER THE INPUT: true; the input reads as it did. -/
def fnMarshalBackSpec : ChangeSpec := { name := "fnMarshalBack", fn := fun _ => fun
  | [d1, d2, d3] => { results := [.lit (.bool true)], args := [d1, d2, d3] }
  | _ => none }
def fnMarshalBackRow : OpenClaim := { program := "ytjhpffenlhfilaa", sum := "eddbd74e8a805db138194f7e257b8ce20e9ff5cf339d5924f3bba3c58cdfafe9", func := "loop.example/pub-g03338/laws.FnMarshalBack", spec := "fnMarshalBack", unfollowed := true, recurses := true, apart := false }
def FnMarshalBackSaid : Prop := fnMarshalBackRow.holds Try.pinned (OpenSpec.ofChange fnMarshalBackSpec)

/-- ITS FALSE NEIGHBOUR: 'it returns false'. Refute it at one input. -/
def fnMarshalBackWrong : ChangeSpec := { name := "fnMarshalBack", fn := fun _ => fun
  | [d1, d2, d3] => { results := [.lit (.bool false)], args := [d1, d2, d3] }
  | _ => none }
def FnMarshalBackWrongFalsely : Prop := fnMarshalBackRow.holds Try.pinned (OpenSpec.ofChange fnMarshalBackWrong)

/-- 'laws.FnReseeded': WHATEVER THE INPUT: true; the input reads as it did. -/
def fnReseededSpec : ChangeSpec := { name := "fnReseeded", fn := fun _ => fun
  | [d1, d2] => { results := [.lit (.bool true)], args := [d1, d2] }
  | _ => none }
def fnReseededRow : OpenClaim := { program := "ytjhpffenlhfilaa", sum := "eddbd74e8a805db138194f7e257b8ce20e9ff5cf339d5924f3bba3c58cdfafe9", func := "loop.example/pub-g03338/laws.FnReseeded", spec := "fnReseeded", unfollowed := true, recurses := true, apart := false }
def FnReseededSaid : Prop := fnReseededRow.holds Try.pinned (OpenSpec.ofChange fnReseededSpec)

/-- ITS FALSE NEIGHBOUR: 'it returns false'. Refute it at one input. -/
def fnReseededWrong : ChangeSpec := { name := "fnReseeded", fn := fun _ => fun
  | [d1, d2] => { results := [.lit (.bool false)], args := [d1, d2] }
  | _ => none }
def FnReseededWrongFalsely : Prop := fnReseededRow.holds Try.pinned (OpenSpec.ofChange fnReseededWrong)

/-- 'laws.FnExactSetup': WHATEVER THE INPUT: true; the input reads as it did. -/
def fnExactSetupSpec : ChangeSpec := { name := "fnExactSetup", fn := fun _ => fun
  | [d1, d2] => { results := [.lit (.bool true)], args := [d1, d2] }
  | _ => none }
def fnExactSetupRow : OpenClaim := { program := "ytjhpffenlhfilaa", sum := "eddbd74e8a805db138194f7e257b8ce20e9ff5cf339d5924f3bba3c58cdfafe9", func := "loop.example/pub-g03338/laws.FnExactSetup", spec := "fnExactSetup", unfollowed := true, recurses := true, apart := false }
def FnExactSetupSaid : Prop := fnExactSetupRow.holds Try.pinned (OpenSpec.ofChange fnExactSetupSpec)

/-- ITS FALSE NEIGHBOUR: 'it returns false'. Refute it at one input. -/
def fnExactSetupWrong : ChangeSpec := { name := "fnExactSetup", fn := fun _ => fun
  | [d1, d2] => { results := [.lit (.bool false)], args := [d1, d2] }
  | _ => none }
def FnExactSetupWrongFalsely : Prop := fnExactSetupRow.holds Try.pinned (OpenSpec.ofChange fnExactSetupWrong)

/-- 'laws.FnSetupCounter': WHATEVER THE INPUT: true; the input reads as it did. -/
def fnSetupCounterSpec : ChangeSpec := { name := "fnSetupCounter", fn := fun _ => fun
  | [d1, d2] => { results := [.lit (.bool true)], args := [d1, d2] }
  | _ => none }
def fnSetupCounterRow : OpenClaim := { program := "ytjhpffenlhfilaa", sum := "eddbd74e8a805db138194f7e257b8ce20e9ff5cf339d5924f3bba3c58cdfafe9", func := "loop.example/pub-g03338/laws.FnSetupCounter", spec := "fnSetupCounter", unfollowed := true, recurses := true, apart := false }
def FnSetupCounterSaid : Prop := fnSetupCounterRow.holds Try.pinned (OpenSpec.ofChange fnSetupCounterSpec)

/-- ITS FALSE NEIGHBOUR: 'it returns false'. Refute it at one input. -/
def fnSetupCounterWrong : ChangeSpec := { name := "fnSetupCounter", fn := fun _ => fun
  | [d1, d2] => { results := [.lit (.bool false)], args := [d1, d2] }
  | _ => none }
def FnSetupCounterWrongFalsely : Prop := fnSetupCounterRow.holds Try.pinned (OpenSpec.ofChange fnSetupCounterWrong)

/-- 'laws.FnBlockShift': WHATEVER THE INPUT: true; the input reads as it did. -/
def fnBlockShiftSpec : ChangeSpec := { name := "fnBlockShift", fn := fun _ => fun
  | [d1, d2] => { results := [.lit (.bool true)], args := [d1, d2] }
  | _ => none }
def fnBlockShiftRow : OpenClaim := { program := "ytjhpffenlhfilaa", sum := "eddbd74e8a805db138194f7e257b8ce20e9ff5cf339d5924f3bba3c58cdfafe9", func := "loop.example/pub-g03338/laws.FnBlockShift", spec := "fnBlockShift", unfollowed := true, recurses := true, apart := false }
def FnBlockShiftSaid : Prop := fnBlockShiftRow.holds Try.pinned (OpenSpec.ofChange fnBlockShiftSpec)

/-- ITS FALSE NEIGHBOUR: 'it returns false'. Refute it at one input. -/
def fnBlockShiftWrong : ChangeSpec := { name := "fnBlockShift", fn := fun _ => fun
  | [d1, d2] => { results := [.lit (.bool false)], args := [d1, d2] }
  | _ => none }
def FnBlockShiftWrongFalsely : Prop := fnBlockShiftRow.holds Try.pinned (OpenSpec.ofChange fnBlockShiftWrong)

/-- 'laws.FnExactBlock': WHATEVER THE INPUT: true; the input reads as it did. -/
def fnExactBlockSpec : ChangeSpec := { name := "fnExactBlock", fn := fun _ => fun
  | [d1, d2] => { results := [.lit (.bool true)], args := [d1, d2] }
  | _ => none }
def fnExactBlockRow : OpenClaim := { program := "ytjhpffenlhfilaa", sum := "eddbd74e8a805db138194f7e257b8ce20e9ff5cf339d5924f3bba3c58cdfafe9", func := "loop.example/pub-g03338/laws.FnExactBlock", spec := "fnExactBlock", unfollowed := true, recurses := true, apart := false }
def FnExactBlockSaid : Prop := fnExactBlockRow.holds Try.pinned (OpenSpec.ofChange fnExactBlockSpec)

/-- ITS FALSE NEIGHBOUR: 'it returns false'. Refute it at one input. -/
def fnExactBlockWrong : ChangeSpec := { name := "fnExactBlock", fn := fun _ => fun
  | [d1, d2] => { results := [.lit (.bool false)], args := [d1, d2] }
  | _ => none }
def FnExactBlockWrongFalsely : Prop := fnExactBlockRow.holds Try.pinned (OpenSpec.ofChange fnExactBlockWrong)

/-- 'laws.FnExactInit64': WHATEVER THE INPUT: true; the input reads as it did. -/
def fnExactInit64Spec : ChangeSpec := { name := "fnExactInit64", fn := fun _ => fun
  | [d] => { results := [.lit (.bool true)], args := [d] }
  | _ => none }
def fnExactInit64Row : OpenClaim := { program := "ytjhpffenlhfilaa", sum := "eddbd74e8a805db138194f7e257b8ce20e9ff5cf339d5924f3bba3c58cdfafe9", func := "loop.example/pub-g03338/laws.FnExactInit64", spec := "fnExactInit64", unfollowed := true, recurses := true, apart := false }
def FnExactInit64Said : Prop := fnExactInit64Row.holds Try.pinned (OpenSpec.ofChange fnExactInit64Spec)

/-- ITS FALSE NEIGHBOUR: 'it returns false'. Refute it at one input. -/
def fnExactInit64Wrong : ChangeSpec := { name := "fnExactInit64", fn := fun _ => fun
  | [d] => { results := [.lit (.bool false)], args := [d] }
  | _ => none }
def FnExactInit64WrongFalsely : Prop := fnExactInit64Row.holds Try.pinned (OpenSpec.ofChange fnExactInit64Wrong)

/-- 'laws.FnExactInit': WHATEVER THE INPUT: true; the input reads as it did. -/
def fnExactInitSpec : ChangeSpec := { name := "fnExactInit", fn := fun _ => fun
  | [d] => { results := [.lit (.bool true)], args := [d] }
  | _ => none }
def fnExactInitRow : OpenClaim := { program := "ytjhpffenlhfilaa", sum := "eddbd74e8a805db138194f7e257b8ce20e9ff5cf339d5924f3bba3c58cdfafe9", func := "loop.example/pub-g03338/laws.FnExactInit", spec := "fnExactInit", unfollowed := true, recurses := true, apart := false }
def FnExactInitSaid : Prop := fnExactInitRow.holds Try.pinned (OpenSpec.ofChange fnExactInitSpec)

/-- ITS FALSE NEIGHBOUR: 'it returns false'. Refute it at one input. -/
def fnExactInitWrong : ChangeSpec := { name := "fnExactInit", fn := fun _ => fun
  | [d] => { results := [.lit (.bool false)], args := [d] }
  | _ => none }
def FnExactInitWrongFalsely : Prop := fnExactInitRow.holds Try.pinned (OpenSpec.ofChange fnExactInitWrong)

/-- 'laws.FnDrawBegins': WHATEVER THE INPUT: true; the input reads as it did. -/
def fnDrawBeginsSpec : ChangeSpec := { name := "fnDrawBegins", fn := fun _ => fun
  | [d1, d2, d3] => { results := [.lit (.bool true)], args := [d1, d2, d3] }
  | _ => none }
def fnDrawBeginsRow : OpenClaim := { program := "ytjhpffenlhfilaa", sum := "eddbd74e8a805db138194f7e257b8ce20e9ff5cf339d5924f3bba3c58cdfafe9", func := "loop.example/pub-g03338/laws.FnDrawBegins", spec := "fnDrawBegins", unfollowed := true, recurses := true, apart := false }
def FnDrawBeginsSaid : Prop := fnDrawBeginsRow.holds Try.pinned (OpenSpec.ofChange fnDrawBeginsSpec)

/-- ITS FALSE NEIGHBOUR: 'it returns false'. Refute it at one input. -/
def fnDrawBeginsWrong : ChangeSpec := { name := "fnDrawBegins", fn := fun _ => fun
  | [d1, d2, d3] => { results := [.lit (.bool false)], args := [d1, d2, d3] }
  | _ => none }
def FnDrawBeginsWrongFalsely : Prop := fnDrawBeginsRow.holds Try.pinned (OpenSpec.ofChange fnDrawBeginsWrong)

/-- 'laws.FnExactDraw': WHATEVER THE INPUT: true; the input reads as it did. -/
def fnExactDrawSpec : ChangeSpec := { name := "fnExactDraw", fn := fun _ => fun
  | [d1, d2] => { results := [.lit (.bool true)], args := [d1, d2] }
  | _ => none }
def fnExactDrawRow : OpenClaim := { program := "ytjhpffenlhfilaa", sum := "eddbd74e8a805db138194f7e257b8ce20e9ff5cf339d5924f3bba3c58cdfafe9", func := "loop.example/pub-g03338/laws.FnExactDraw", spec := "fnExactDraw", unfollowed := true, recurses := true, apart := false }
def FnExactDrawSaid : Prop := fnExactDrawRow.holds Try.pinned (OpenSpec.ofChange fnExactDrawSpec)

/-- ITS FALSE NEIGHBOUR: 'it returns false'. Refute it at one input. -/
def fnExactDrawWrong : ChangeSpec := { name := "fnExactDraw", fn := fun _ => fun
  | [d1, d2] => { results := [.lit (.bool false)], args := [d1, d2] }
  | _ => none }
def FnExactDrawWrongFalsely : Prop := fnExactDrawRow.holds Try.pinned (OpenSpec.ofChange fnExactDrawWrong)

/-- 'laws.FnIteration': WHATEVER THE INPUT: true; the input reads as it did. -/
def fnIterationSpec : ChangeSpec := { name := "fnIteration", fn := fun _ => fun
  | [d1, d2] => { results := [.lit (.bool true)], args := [d1, d2] }
  | _ => none }
def fnIterationRow : OpenClaim := { program := "ytjhpffenlhfilaa", sum := "eddbd74e8a805db138194f7e257b8ce20e9ff5cf339d5924f3bba3c58cdfafe9", func := "loop.example/pub-g03338/laws.FnIteration", spec := "fnIteration", unfollowed := true, recurses := true, apart := false }
def FnIterationSaid : Prop := fnIterationRow.holds Try.pinned (OpenSpec.ofChange fnIterationSpec)

/-- ITS FALSE NEIGHBOUR: 'it returns false'. Refute it at one input. -/
def fnIterationWrong : ChangeSpec := { name := "fnIteration", fn := fun _ => fun
  | [d1, d2] => { results := [.lit (.bool false)], args := [d1, d2] }
  | _ => none }
def FnIterationWrongFalsely : Prop := fnIterationRow.holds Try.pinned (OpenSpec.ofChange fnIterationWrong)

/-- 'laws.FnExactRun': WHATEVER THE INPUT: true; the input reads as it did. -/
def fnExactRunSpec : ChangeSpec := { name := "fnExactRun", fn := fun _ => fun
  | [d1, d2] => { results := [.lit (.bool true)], args := [d1, d2] }
  | _ => none }
def fnExactRunRow : OpenClaim := { program := "ytjhpffenlhfilaa", sum := "eddbd74e8a805db138194f7e257b8ce20e9ff5cf339d5924f3bba3c58cdfafe9", func := "loop.example/pub-g03338/laws.FnExactRun", spec := "fnExactRun", unfollowed := true, recurses := true, apart := false }
def FnExactRunSaid : Prop := fnExactRunRow.holds Try.pinned (OpenSpec.ofChange fnExactRunSpec)

/-- ITS FALSE NEIGHBOUR: 'it returns false'. Refute it at one input. -/
def fnExactRunWrong : ChangeSpec := { name := "fnExactRun", fn := fun _ => fun
  | [d1, d2] => { results := [.lit (.bool false)], args := [d1, d2] }
  | _ => none }
def FnExactRunWrongFalsely : Prop := fnExactRunRow.holds Try.pinned (OpenSpec.ofChange fnExactRunWrong)

/-- 'laws.FnRefillNext': WHATEVER THE INPUT: true; the input reads as it did. -/
def fnRefillNextSpec : ChangeSpec := { name := "fnRefillNext", fn := fun _ => fun
  | [d1, d2] => { results := [.lit (.bool true)], args := [d1, d2] }
  | _ => none }
def fnRefillNextRow : OpenClaim := { program := "ytjhpffenlhfilaa", sum := "eddbd74e8a805db138194f7e257b8ce20e9ff5cf339d5924f3bba3c58cdfafe9", func := "loop.example/pub-g03338/laws.FnRefillNext", spec := "fnRefillNext", unfollowed := true, recurses := true, apart := false }
def FnRefillNextSaid : Prop := fnRefillNextRow.holds Try.pinned (OpenSpec.ofChange fnRefillNextSpec)

/-- ITS FALSE NEIGHBOUR: 'it returns false'. Refute it at one input. -/
def fnRefillNextWrong : ChangeSpec := { name := "fnRefillNext", fn := fun _ => fun
  | [d1, d2] => { results := [.lit (.bool false)], args := [d1, d2] }
  | _ => none }
def FnRefillNextWrongFalsely : Prop := fnRefillNextRow.holds Try.pinned (OpenSpec.ofChange fnRefillNextWrong)

/-- 'laws.FnMarshalForth': WHATEVER THE INPUT: true; the input reads as it did. -/
def fnMarshalForthSpec : ChangeSpec := { name := "fnMarshalForth", fn := fun _ => fun
  | [d1, d2, d3] => { results := [.lit (.bool true)], args := [d1, d2, d3] }
  | _ => none }
def fnMarshalForthRow : OpenClaim := { program := "ytjhpffenlhfilaa", sum := "eddbd74e8a805db138194f7e257b8ce20e9ff5cf339d5924f3bba3c58cdfafe9", func := "loop.example/pub-g03338/laws.FnMarshalForth", spec := "fnMarshalForth", unfollowed := true, recurses := true, apart := false }
def FnMarshalForthSaid : Prop := fnMarshalForthRow.holds Try.pinned (OpenSpec.ofChange fnMarshalForthSpec)

/-- ITS FALSE NEIGHBOUR: 'it returns false'. Refute it at one input. -/
def fnMarshalForthWrong : ChangeSpec := { name := "fnMarshalForth", fn := fun _ => fun
  | [d1, d2, d3] => { results := [.lit (.bool false)], args := [d1, d2, d3] }
  | _ => none }
def FnMarshalForthWrongFalsely : Prop := fnMarshalForthRow.holds Try.pinned (OpenSpec.ofChange fnMarshalForthWrong)

/- THE SECOND FORM. 'bulk': how many values and letters a reading holds, each counted each time it is reached (what is shared counts as often as it is met; a slice's spare places count too). A statement '..UptoSaid' is the law's where the arguments, and the package variables that the reading takes, are together of bulk at most 1048576: NARROWER than '..Said'. Prove '..Said' where nothing that the law and all that it calls make is longer than what came in: it says more and counts as full. Else prove '..UptoSaid'. A law counts once. -/
mutual
def uptoBulk {H : Type} : DataW H → Nat
  | .lit (.string bytes) => bytes.length + 1
  | .lit _ => 1
  | .nil => 1
  | .ptr d => uptoBulk d + 1
  | .slice elems spare => uptoBulkAll elems + uptoBulkAll spare + 1
  | .agg parts => uptoBulkAll parts + 1
  | .iface _ d => uptoBulk d + 1
  | .map entries => uptoBulkEntries entries + 1
  | .held _ => 1
def uptoBulkAll {H : Type} : List (DataW H) → Nat
  | [] => 0
  | d :: r => uptoBulk d + uptoBulkAll r
def uptoBulkEntries {H : Type} : List (Lit × DataW H) → Nat
  | [] => 0
  | x :: r => uptoBulkEntry x + uptoBulkEntries r
def uptoBulkEntry {H : Type} : Lit × DataW H → Nat
  | (.string bytes, d) => bytes.length + uptoBulk d + 1
  | (_, d) => uptoBulk d + 1
 end
def uptoSmall : (H : Type) → List (DataW H) → Bool := fun _ ds => decide (uptoBulkAll ds ≤ 1048576)
def OpenSpec.upto (s : _root_.Go.ChangeSpec) : _root_.Go.OpenSpec := { _root_.Go.OpenSpec.ofChange s with cond := some uptoSmall }

/-- 'laws.FnExactQuarter', WHERE WHAT IT READS IS OF BULK AT MOST 1048576: true; the input reads as it did. -/
def fnExactQuarterUptoRow : OpenClaim := { program := "ytjhpffenlhfilaa", sum := "eddbd74e8a805db138194f7e257b8ce20e9ff5cf339d5924f3bba3c58cdfafe9", func := "loop.example/pub-g03338/laws.FnExactQuarter", spec := "fnExactQuarter", apart := false, narrowed := true }
def FnExactQuarterUptoSaid : Prop := fnExactQuarterUptoRow.holds Try.pinned (OpenSpec.upto fnExactQuarterSpec)

/-- 'laws.FnQuarterApart', WHERE WHAT IT READS IS OF BULK AT MOST 1048576: true; the input reads as it did. -/
def fnQuarterApartUptoRow : OpenClaim := { program := "ytjhpffenlhfilaa", sum := "eddbd74e8a805db138194f7e257b8ce20e9ff5cf339d5924f3bba3c58cdfafe9", func := "loop.example/pub-g03338/laws.FnQuarterApart", spec := "fnQuarterApart", apart := false, narrowed := true }
def FnQuarterApartUptoSaid : Prop := fnQuarterApartUptoRow.holds Try.pinned (OpenSpec.upto fnQuarterApartSpec)

/-- 'laws.FnQuarterBack', WHERE WHAT IT READS IS OF BULK AT MOST 1048576: true; the input reads as it did. -/
def fnQuarterBackUptoRow : OpenClaim := { program := "ytjhpffenlhfilaa", sum := "eddbd74e8a805db138194f7e257b8ce20e9ff5cf339d5924f3bba3c58cdfafe9", func := "loop.example/pub-g03338/laws.FnQuarterBack", spec := "fnQuarterBack", apart := false, narrowed := true }
def FnQuarterBackUptoSaid : Prop := fnQuarterBackUptoRow.holds Try.pinned (OpenSpec.upto fnQuarterBackSpec)

/-- 'laws.FnUnmarshal', WHERE WHAT IT READS IS OF BULK AT MOST 1048576: true; the input reads as it did. -/
def fnUnmarshalUptoRow : OpenClaim := { program := "ytjhpffenlhfilaa", sum := "eddbd74e8a805db138194f7e257b8ce20e9ff5cf339d5924f3bba3c58cdfafe9", func := "loop.example/pub-g03338/laws.FnUnmarshal", spec := "fnUnmarshal", unfollowed := true, recurses := true, apart := false, narrowed := true }
def FnUnmarshalUptoSaid : Prop := fnUnmarshalUptoRow.holds Try.pinned (OpenSpec.upto fnUnmarshalSpec)

/-- 'laws.FnMarshalBack', WHERE WHAT IT READS IS OF BULK AT MOST 1048576: true; the input reads as it did. -/
def fnMarshalBackUptoRow : OpenClaim := { program := "ytjhpffenlhfilaa", sum := "eddbd74e8a805db138194f7e257b8ce20e9ff5cf339d5924f3bba3c58cdfafe9", func := "loop.example/pub-g03338/laws.FnMarshalBack", spec := "fnMarshalBack", unfollowed := true, recurses := true, apart := false, narrowed := true }
def FnMarshalBackUptoSaid : Prop := fnMarshalBackUptoRow.holds Try.pinned (OpenSpec.upto fnMarshalBackSpec)

/-- 'laws.FnReseeded', WHERE WHAT IT READS IS OF BULK AT MOST 1048576: true; the input reads as it did. -/
def fnReseededUptoRow : OpenClaim := { program := "ytjhpffenlhfilaa", sum := "eddbd74e8a805db138194f7e257b8ce20e9ff5cf339d5924f3bba3c58cdfafe9", func := "loop.example/pub-g03338/laws.FnReseeded", spec := "fnReseeded", unfollowed := true, recurses := true, apart := false, narrowed := true }
def FnReseededUptoSaid : Prop := fnReseededUptoRow.holds Try.pinned (OpenSpec.upto fnReseededSpec)

/-- 'laws.FnExactSetup', WHERE WHAT IT READS IS OF BULK AT MOST 1048576: true; the input reads as it did. -/
def fnExactSetupUptoRow : OpenClaim := { program := "ytjhpffenlhfilaa", sum := "eddbd74e8a805db138194f7e257b8ce20e9ff5cf339d5924f3bba3c58cdfafe9", func := "loop.example/pub-g03338/laws.FnExactSetup", spec := "fnExactSetup", unfollowed := true, recurses := true, apart := false, narrowed := true }
def FnExactSetupUptoSaid : Prop := fnExactSetupUptoRow.holds Try.pinned (OpenSpec.upto fnExactSetupSpec)

/-- 'laws.FnSetupCounter', WHERE WHAT IT READS IS OF BULK AT MOST 1048576: true; the input reads as it did. -/
def fnSetupCounterUptoRow : OpenClaim := { program := "ytjhpffenlhfilaa", sum := "eddbd74e8a805db138194f7e257b8ce20e9ff5cf339d5924f3bba3c58cdfafe9", func := "loop.example/pub-g03338/laws.FnSetupCounter", spec := "fnSetupCounter", unfollowed := true, recurses := true, apart := false, narrowed := true }
def FnSetupCounterUptoSaid : Prop := fnSetupCounterUptoRow.holds Try.pinned (OpenSpec.upto fnSetupCounterSpec)

/-- 'laws.FnBlockShift', WHERE WHAT IT READS IS OF BULK AT MOST 1048576: true; the input reads as it did. -/
def fnBlockShiftUptoRow : OpenClaim := { program := "ytjhpffenlhfilaa", sum := "eddbd74e8a805db138194f7e257b8ce20e9ff5cf339d5924f3bba3c58cdfafe9", func := "loop.example/pub-g03338/laws.FnBlockShift", spec := "fnBlockShift", unfollowed := true, recurses := true, apart := false, narrowed := true }
def FnBlockShiftUptoSaid : Prop := fnBlockShiftUptoRow.holds Try.pinned (OpenSpec.upto fnBlockShiftSpec)

/-- 'laws.FnExactBlock', WHERE WHAT IT READS IS OF BULK AT MOST 1048576: true; the input reads as it did. -/
def fnExactBlockUptoRow : OpenClaim := { program := "ytjhpffenlhfilaa", sum := "eddbd74e8a805db138194f7e257b8ce20e9ff5cf339d5924f3bba3c58cdfafe9", func := "loop.example/pub-g03338/laws.FnExactBlock", spec := "fnExactBlock", unfollowed := true, recurses := true, apart := false, narrowed := true }
def FnExactBlockUptoSaid : Prop := fnExactBlockUptoRow.holds Try.pinned (OpenSpec.upto fnExactBlockSpec)

/-- 'laws.FnExactInit64', WHERE WHAT IT READS IS OF BULK AT MOST 1048576: true; the input reads as it did. -/
def fnExactInit64UptoRow : OpenClaim := { program := "ytjhpffenlhfilaa", sum := "eddbd74e8a805db138194f7e257b8ce20e9ff5cf339d5924f3bba3c58cdfafe9", func := "loop.example/pub-g03338/laws.FnExactInit64", spec := "fnExactInit64", unfollowed := true, recurses := true, apart := false, narrowed := true }
def FnExactInit64UptoSaid : Prop := fnExactInit64UptoRow.holds Try.pinned (OpenSpec.upto fnExactInit64Spec)

/-- 'laws.FnExactInit', WHERE WHAT IT READS IS OF BULK AT MOST 1048576: true; the input reads as it did. -/
def fnExactInitUptoRow : OpenClaim := { program := "ytjhpffenlhfilaa", sum := "eddbd74e8a805db138194f7e257b8ce20e9ff5cf339d5924f3bba3c58cdfafe9", func := "loop.example/pub-g03338/laws.FnExactInit", spec := "fnExactInit", unfollowed := true, recurses := true, apart := false, narrowed := true }
def FnExactInitUptoSaid : Prop := fnExactInitUptoRow.holds Try.pinned (OpenSpec.upto fnExactInitSpec)

/-- 'laws.FnDrawBegins', WHERE WHAT IT READS IS OF BULK AT MOST 1048576: true; the input reads as it did. -/
def fnDrawBeginsUptoRow : OpenClaim := { program := "ytjhpffenlhfilaa", sum := "eddbd74e8a805db138194f7e257b8ce20e9ff5cf339d5924f3bba3c58cdfafe9", func := "loop.example/pub-g03338/laws.FnDrawBegins", spec := "fnDrawBegins", unfollowed := true, recurses := true, apart := false, narrowed := true }
def FnDrawBeginsUptoSaid : Prop := fnDrawBeginsUptoRow.holds Try.pinned (OpenSpec.upto fnDrawBeginsSpec)

/-- 'laws.FnExactDraw', WHERE WHAT IT READS IS OF BULK AT MOST 1048576: true; the input reads as it did. -/
def fnExactDrawUptoRow : OpenClaim := { program := "ytjhpffenlhfilaa", sum := "eddbd74e8a805db138194f7e257b8ce20e9ff5cf339d5924f3bba3c58cdfafe9", func := "loop.example/pub-g03338/laws.FnExactDraw", spec := "fnExactDraw", unfollowed := true, recurses := true, apart := false, narrowed := true }
def FnExactDrawUptoSaid : Prop := fnExactDrawUptoRow.holds Try.pinned (OpenSpec.upto fnExactDrawSpec)

/-- 'laws.FnIteration', WHERE WHAT IT READS IS OF BULK AT MOST 1048576: true; the input reads as it did. -/
def fnIterationUptoRow : OpenClaim := { program := "ytjhpffenlhfilaa", sum := "eddbd74e8a805db138194f7e257b8ce20e9ff5cf339d5924f3bba3c58cdfafe9", func := "loop.example/pub-g03338/laws.FnIteration", spec := "fnIteration", unfollowed := true, recurses := true, apart := false, narrowed := true }
def FnIterationUptoSaid : Prop := fnIterationUptoRow.holds Try.pinned (OpenSpec.upto fnIterationSpec)

/-- 'laws.FnExactRun', WHERE WHAT IT READS IS OF BULK AT MOST 1048576: true; the input reads as it did. -/
def fnExactRunUptoRow : OpenClaim := { program := "ytjhpffenlhfilaa", sum := "eddbd74e8a805db138194f7e257b8ce20e9ff5cf339d5924f3bba3c58cdfafe9", func := "loop.example/pub-g03338/laws.FnExactRun", spec := "fnExactRun", unfollowed := true, recurses := true, apart := false, narrowed := true }
def FnExactRunUptoSaid : Prop := fnExactRunUptoRow.holds Try.pinned (OpenSpec.upto fnExactRunSpec)

/-- 'laws.FnRefillNext', WHERE WHAT IT READS IS OF BULK AT MOST 1048576: true; the input reads as it did. -/
def fnRefillNextUptoRow : OpenClaim := { program := "ytjhpffenlhfilaa", sum := "eddbd74e8a805db138194f7e257b8ce20e9ff5cf339d5924f3bba3c58cdfafe9", func := "loop.example/pub-g03338/laws.FnRefillNext", spec := "fnRefillNext", unfollowed := true, recurses := true, apart := false, narrowed := true }
def FnRefillNextUptoSaid : Prop := fnRefillNextUptoRow.holds Try.pinned (OpenSpec.upto fnRefillNextSpec)

/-- 'laws.FnMarshalForth', WHERE WHAT IT READS IS OF BULK AT MOST 1048576: true; the input reads as it did. -/
def fnMarshalForthUptoRow : OpenClaim := { program := "ytjhpffenlhfilaa", sum := "eddbd74e8a805db138194f7e257b8ce20e9ff5cf339d5924f3bba3c58cdfafe9", func := "loop.example/pub-g03338/laws.FnMarshalForth", spec := "fnMarshalForth", unfollowed := true, recurses := true, apart := false, narrowed := true }
def FnMarshalForthUptoSaid : Prop := fnMarshalForthUptoRow.holds Try.pinned (OpenSpec.upto fnMarshalForthSpec)

end Rows
end Go.Proofs.Ytjhpffenlhfilaa
