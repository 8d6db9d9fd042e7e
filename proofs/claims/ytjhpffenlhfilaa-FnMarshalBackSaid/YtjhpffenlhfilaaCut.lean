/- Closed facts on the head of the program's cut, so stated that the kernel need not run over its letters one by one. -/
import Derived.Test.YtjhpffenlhfilaaRows
import Derived.JoinedOf
import Derived.KernelRfl
namespace Go.Proofs.Ytjhpffenlhfilaa
open Go

theorem head_is : Try.prog.initOrder = "harness 4349a18d8256c891f9b822577b3ed5fb7035a1505cd83fdca0cc0fbb4aff83b8 cut at loop.example/pub-g03338/laws.FnExactQuarter loop.example/pub-g03338/laws.FnQuarterApart loop.example/pub-g03338/laws.FnQuarterBack loop.example/pub-g03338/laws.FnUnmarshal loop.example/pub-g03338/laws.FnMarshalBack loop.example/pub-g03338/laws.FnReseeded loop.example/pub-g03338/laws.FnExactSetup loop.example/pub-g03338/laws.FnSetupCounter loop.example/pub-g03338/laws.FnBlockShift loop.example/pub-g03338/laws.FnExactBlock loop.example/pub-g03338/laws.FnExactInit64 loop.example/pub-g03338/laws.FnExactInit loop.example/pub-g03338/laws.FnDrawBegins loop.example/pub-g03338/laws.FnExactDraw loop.example/pub-g03338/laws.FnIteration loop.example/pub-g03338/laws.FnExactRun loop.example/pub-g03338/laws.FnRefillNext loop.example/pub-g03338/laws.FnMarshalForth" := by kernel_rfl

theorem head_letters (P : Program) (l : List Char) (s : String) (hP : P.initOrder = s) (h : s = String.ofList l) : P.initOrder.toList = l := by rw [hP, h, String.toList_ofList]

theorem strip_cut (rest : List (List Char)) : stripLifts liftWords ("cut".toList :: rest) = ([], "cut".toList :: rest) := by
  unfold liftWords
  simp only [stripLifts]
  rfl
theorem make_cut (P : Program) (l : List Char) (rest : List (List Char)) (h : P.initOrder.toList = l) (hb : behindMainWord (wordsSigns l) = "cut".toList :: rest) : P.make = some .cut := by
  unfold Program.make
  rw [h, hb]
  rfl
theorem final_cut (P : Program) (l : List Char) (rest : List (List Char)) (h : P.initOrder.toList = l) (hb : behindMainWord (wordsSigns l) = "cut".toList :: rest) : P.liftsFinal = false := by
  unfold Program.liftsFinal Program.headLifts
  rw [h, hb, strip_cut]
  rfl
theorem enter_cut (P : Program) (l : List Char) (rest : List (List Char)) (h : P.initOrder.toList = l) (hb : behindMainWord (wordsSigns l) = "cut".toList :: rest)
    (h1 : P.laysLater = false) (h2 : P.bearsReflect = false) (h3 : P.doorFits [] = true) : P.mayEnter = true := by
  unfold Program.mayEnter
  rw [h, hb]
  simp only [strip_cut, h1, h2, h3]
  rfl

set_option maxRecDepth 1000000 in
theorem head_words : ∃ l, Try.prog.initOrder.toList = l ∧ (behindMainWord (wordsSigns l)).head? = some "cut".toList := by
  refine ⟨_, head_letters Try.prog _ _ head_is rfl, ?_⟩
  kernel_rfl

theorem head_cut : ∃ l rest, Try.prog.initOrder.toList = l ∧ behindMainWord (wordsSigns l) = "cut".toList :: rest := by
  obtain ⟨l, h, h2⟩ := head_words
  cases hb : behindMainWord (wordsSigns l) with
  | nil => rw [hb] at h2; cases h2
  | cons w rest =>
    rw [hb] at h2
    injection h2 with h2
    exact ⟨l, rest, h, by rw [hb, h2]⟩

theorem laysLater_no : Try.prog.laysLater = false := by kernel_rfl
theorem bearsReflect_no : Try.prog.bearsReflect = false := by kernel_rfl
theorem doorFits_yes : Try.prog.doorFits [] = true := by kernel_rfl
theorem cut_made : Try.prog.make = some .cut := by obtain ⟨l, rest, h, hb⟩ := head_cut; exact make_cut _ l rest h hb
theorem cut_final : Try.prog.liftsFinal = false := by obtain ⟨l, rest, h, hb⟩ := head_cut; exact final_cut _ l rest h hb
theorem cut_enter : Try.prog.mayEnter = true := by obtain ⟨l, rest, h, hb⟩ := head_cut; exact enter_cut _ l rest h hb laysLater_no bearsReflect_no doorFits_yes

end Go.Proofs.Ytjhpffenlhfilaa
