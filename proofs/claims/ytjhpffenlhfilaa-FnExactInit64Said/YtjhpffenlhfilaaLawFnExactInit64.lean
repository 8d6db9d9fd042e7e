/- for every seed, the state that the package makes of it has the parts that the reference says. -/
import Derived.Test.YtjhpffenlhfilaaOpen
import Derived.Test.YtjhpffenlhfilaaCut
import Derived.Test.YtjhpffenlhfilaaLInit64
import Derived.Test.YtjhpffenlhfilaaWBlkD
namespace Go.Proofs.Ytjhpffenlhfilaa
open Go.ChangeShapes Go.WideShapes Go.ChangeAt Go.RowKit

set_option maxRecDepth 100000 in
theorem lifted_FnExactInit64 (os : Os) (started : os.Started) (H : Type) (enc : TypeId × Value → H) :
    ReturnsInHanded {} Try.checked os 13 .any (Rows.fnExactInit64Spec.pre6 enc Try.prog Try.f13 Rows.fnExactInit64Row.domain false) (Rows.fnExactInit64Spec.post enc Try.prog Try.f13 false true false false) := by
  refine returnsInHanded_of_change (C := Try.checked) own started (by kernel_rfl) Try.func13
    (ChangeSpec.witness6 (enc := enc) (C := Try.checked) false ⟨#[], #[.agg #[.int .u64 0, .int .u64 0, .int .u64 0, .int .u64 0]], []⟩ 8 (by kernel_rfl) (by kernel_rfl) (by kernel_rfl) (by kernel_rfl)) ?_
  intro W base args ds gs before hval0 hW hcnd _
  have hval : ∀ (j : Nat) t v, Try.f13.params[j]? = some t → args[j]? = some v → Value.okWide Try.prog W .any base t v := hval0
  have hW' := hW
  obtain ⟨p, q, hA0, hV, rfl, hfz, hnd⟩ := hW
  have hA : DataW.TrodAll enc Try.prog W 0 (fun _ => true) true Try.f13.params.toList args.toList ds p := hA0
  rw [Try.params13] at hA hval
  obtain ⟨v0, vs0, d0, ds0, p0, q0, hargs, rfl, rfl, h0, r0⟩ := trodAll_cons hA
  obtain ⟨rfl, rfl, rfl⟩ := trodAll_nil r0
  obtain rfl : args = #[v0] := by cases args; simp_all
  obtain ⟨rfl, rfl⟩ := trodVars_none hV
  have k0 := h0
  have lt0 : ∀ x ∈ p0, x.block < W.heap.size := by obtain ⟨m, hm⟩ := k0; exact DataW.trod_lt m _ _ _ hm
  obtain ⟨l0, hl0, rfl, w0⟩ := open_ints_array Try.underlying30 Try.underlying29 (by kernel_rfl) (by kernel_rfl) (hval 0 30 v0 rfl rfl) h0
  clear hA0 hval0
  refine (walk_FnExactInit64 Ch.block_c l0 hl0 w0 W).mono fun e W' ⟨he, bel⟩ => ?_
  subst he
  exact ⟨_, rfl, _, _, _, [], _, [], hW', trodAll_mk1 (shut_bool Try.underlying4 _), (trodAll_cons_mk (Below.trod laidOut (by kernel_rfl) (of_decide_eq_true (by kernel_rfl)) k0 bel lt0) trodAll_mk0), rfl, bel.frame _, fun h => by cases h⟩

theorem closed_FnExactInit64 : joinedFacts Try.prog 13 Try.f13 Rows.fnExactInit64Spec Rows.fnExactInit64Row = true := by
  simp only [joinedFacts, cut_made, cut_final, cut_enter]
  kernel_rfl

/-- The statement. -/
theorem proved_FnExactInit64 : Rows.FnExactInit64Said :=
  OpenClaim.holds_of_wide 13 Try.f13 rfl rfl rfl rfl rfl rfl rfl ⟨rfl, rfl, rfl, rfl, rfl⟩ rfl rfl rfl rfl rfl (by kernel_rfl) Try.func13 closed_FnExactInit64
    (of_decide_eq_true (by kernel_rfl)) (by unfold Func.isWrapper; first | (rw [if_pos (by decide +kernel)]; kernel_rfl) | (rw [if_neg (by decide +kernel)]; exact ⟨rfl, rfl⟩))
    (fun os started H enc _ => lifted_FnExactInit64 os started H enc)
end Go.Proofs.Ytjhpffenlhfilaa
