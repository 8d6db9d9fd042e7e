/- FnStreamPieces: for every key and every list of at most 1000 pieces of at most 2^20 bytes in all, what the pieces are mixed to, one behind the other, is what the bytes are mixed to at once; and there is no stream just where the key is not of 1 to 256 bytes. -/
import Derived.Test.YtcmokpacocgolaaOpen
import Derived.Test.YtcmokpacocgolaaCut
import Derived.Test.YtcmokpacocgolaaLPieces
namespace Go.Proofs.Ytcmokpacocgolaa
open Go.ChangeShapes Go.WideShapes Go.ChangeAt Go.RowKit

set_option maxRecDepth 100000 in
theorem lifted_FnStreamPieces (os : Os) (started : os.Started) (H : Type) (enc : TypeId × Value → H) :
    ReturnsInHanded {} Try.checked os 12 .any (Rows.fnStreamPiecesSpec.pre6 enc Try.prog Try.f12 Rows.fnStreamPiecesRow.domain false) (Rows.fnStreamPiecesSpec.post enc Try.prog Try.f12 false true false false) := by
  refine returnsInHanded_of_change (C := Try.checked) own started (by kernel_rfl) Try.func12
    (ChangeSpec.witness6 (enc := enc) (C := Try.checked) false ⟨#[], #[.slice none 0 0, .slice none 0 0], []⟩ 8 (by kernel_rfl) (by kernel_rfl) (by kernel_rfl) (by kernel_rfl)) ?_
  intro W base args ds gs before hval0 hW hcnd _
  have hval : ∀ (j : Nat) t v, Try.f12.params[j]? = some t → args[j]? = some v → Value.okWide Try.prog W .any base t v := hval0
  have hW' := hW
  obtain ⟨p, q, hA0, hV, rfl, hfz, hnd⟩ := hW
  have hA : DataW.TrodAll enc Try.prog W 0 (fun _ => true) true Try.f12.params.toList args.toList ds p := hA0
  rw [Try.params12] at hA hval
  obtain ⟨v0, vs0, d0, ds0, p0, q0, hargs, rfl, rfl, h0, r0⟩ := trodAll_cons hA
  obtain ⟨v1, vs1, d1, ds1, p1, q1, rfl, rfl, rfl, h1, r1⟩ := trodAll_cons r0
  obtain ⟨rfl, rfl, rfl⟩ := trodAll_nil r1
  obtain rfl : args = #[v0, v1] := by cases args; simp_all
  obtain ⟨rfl, rfl⟩ := trodVars_none hV
  have k0 := h0
  have lt0 : ∀ x ∈ p0, x.block < W.heap.size := by obtain ⟨m, hm⟩ := k0; exact DataW.trod_lt m _ _ _ hm
  have k1 := h1
  have lt1 : ∀ x ∈ p1, x.block < W.heap.size := by obtain ⟨m, hm⟩ := k1; exact DataW.trod_lt m _ _ _ hm
  obtain ⟨A0, len0, cap0, rfl⟩ := okWide_slice Try.underlying22 (hval 0 22 v0 rfl rfl)
  obtain ⟨z0, c0⟩ : ∃ zs, Came .u8 W A0 len0 cap0 zs := by obtain ⟨fuel, hf⟩ := h0; exact came_of Try.underlying22 Try.underlying5 (by kernel_rfl) hf
  obtain ⟨A1, len1, cap1, rfl⟩ := okWide_slice Try.underlying39 (hval 1 39 v1 rfl rfl)
  obtain ⟨z1, c1⟩ : ∃ zs, Came2 .u8 W A1 len1 cap1 zs := by obtain ⟨fuel, hf⟩ := h1; exact came2_of Try.underlying39 Try.underlying22 Try.underlying5 (by kernel_rfl) (by kernel_rfl) hf
  clear hA0 hval0
  refine (walk_FnStreamPieces A0 len0 cap0 z0 A1 len1 cap1 z1 W c0 c1).mono fun e W' ⟨he, bel⟩ => ?_
  subst he
  exact ⟨_, rfl, _, _, _, [], _, [], hW', trodAll_mk1 (shut_bool Try.underlying4 _), (trodAll_cons_mk (Below.trod laidOut (by kernel_rfl) (of_decide_eq_true (by kernel_rfl)) k0 bel lt0) (trodAll_cons_mk (Below.trod laidOut (by kernel_rfl) (of_decide_eq_true (by kernel_rfl)) k1 bel lt1) trodAll_mk0)), rfl, bel.frame _, fun h => by cases h⟩

theorem closed_FnStreamPieces : joinedFacts Try.prog 12 Try.f12 Rows.fnStreamPiecesSpec Rows.fnStreamPiecesRow = true := by
  simp only [joinedFacts, cut_made, cut_final, cut_enter]
  kernel_rfl

/-- The statement. -/
theorem proved_FnStreamPieces : Rows.FnStreamPiecesSaid :=
  OpenClaim.holds_of_wide 12 Try.f12 rfl rfl rfl rfl rfl rfl rfl ⟨rfl, rfl, rfl, rfl, rfl⟩ rfl rfl rfl rfl rfl (by kernel_rfl) Try.func12 closed_FnStreamPieces
    (of_decide_eq_true (by kernel_rfl)) (by unfold Func.isWrapper; first | (rw [if_pos (by decide +kernel)]; kernel_rfl) | (rw [if_neg (by decide +kernel)]; exact ⟨rfl, rfl⟩))
    (fun os started H enc _ => lifted_FnStreamPieces os started H enc)
end Go.Proofs.Ytcmokpacocgolaa
