/- The walk of the law on blocks. -/
import Derived.Test.YtjhpffenlhfilaaWBlkC
import Derived.Test.YtjhpffenlhfilaaWSBlock4
import Derived.Test.YtjhpffenlhfilaaLSetup
import Derived.Deep.RegionWith
namespace Go.Proofs.Ytjhpffenlhfilaa
open Go.RowKit Ch Mem

theorem eql33 (M : List V) (h : M.length = 32) (w : World) : (binOp .eql 33 (.agg (u64s M).toArray) (.agg (u64s M).toArray)).run Try.prog w = .ok (.bool true) w := by
  obtain ⟨tj, htj, hsj⟩ : ∃ ti, Try.prog.info? 29 = some ti ∧ ti.size = 1 := by
    have h : (Try.prog.info? 29).map (·.size) = some 1 := by kernel_rfl
    cases hq : Try.prog.info? 29 with
    | none => rw [hq] at h; cases h
    | some ti => rw [hq] at h; injection h with h; exact ⟨ti, rfl, h⟩
  have e : (u64s M).toArray = Eq.ints .u64 (M.map n64) := by simp [Eq.ints, u64s, Function.comp_def]
  have hl : (M.map n64).length = 32 := by simp [h]
  rw [e, Eq.run_eql_ints Try.underlying33 Try.underlying29 htj hsj _ _ hl hl w, beq_self_eq_true]

attribute [local go_sem ↓] loadSeed_eq

set_option maxRecDepth 100000 in
set_option maxHeartbeats 2000000 in
theorem walk_FnExactBlock (hb : BlockC) (l0 : List Int) (hl0 : l0.length = 4) (w0 : ∀ x ∈ l0, (Lit.int .u64 x).wf = true) (a1 : Int) (w1 : (Lit.int .u32 a1).wf = true) (W : World) :
    Calls Try.prog 12 #[.agg (Eq.ints .u64 l0), .int .u32 a1] W fun e w' => e = .returned (.bool true) ∧ Below W.heap.size W w' := by
  obtain ⟨s0, s1, s2, s3, hs⟩ := seed_of hl0 w0
  obtain ⟨c, rfl⟩ := word_of w1
  rw [hs]
  have eqs := fun w => eql33 (blockL s0 s1 s2 s3 c) (blockL_length _ _ _ _ _) w
  have ca := fun w => implBlock_any hb s0 s1 s2 s3 c w
  have cb := fun w => blockSpec_any s0 s1 s2 s3 c w
  generalize u64s (blockL s0 s1 s2 s3 c) = R at eqs ca cb
  have ldS : ∀ w gs, B w gs 30 (u64s [s0, s1, s2, s3]) → (loadSeed (.pointer (some ⟨gs, 0, none⟩))).run Try.prog w = .ok (.agg (u64s [s0, s1, s2, s3]).toArray) w := fun w gs h => run_loadSeed h
  clear hl0 w0 w1 hs
  generalize u64s [s0, s1, s2, s3] = S at ca cb ldS ⊢
  go_enter Try.func12, Try.ntmps12
  go_wp2_with (refine wpList_box rfl 30 _ rfl _ S rfl rfl ?_; intro gs wS hgs hltS hS hbS; (try go_frame))
  have hS0 := hS.drew
  have E0 := ldS _ _ hS0
  have e0 : Below W.heap.size W wS.drew := below_drewN hbS 1
  have hsz := hbS.size
  go_region_with (first
    | (go_at_call 32; refine (ca _).mono ?_; rintro e wa ⟨rfl, hba⟩; (first | (have hSa := hSb.call hba; have ea := below_call eb eb.size hba) | (have hSa := hS0.call hba; have ea := below_call e0 hsz hba)); have Ea := ldS _ _ hSa)
    | (go_at_call 33; refine (cb _).mono ?_; rintro e wb ⟨rfl, hbb⟩; (first | (have hSb := hSa.call hbb; have eb := below_call ea ea.size hbb) | (have hSb := hS0.call hbb; have eb := below_call e0 hsz hbb)); have Eb := ldS _ _ hSb))
  all_goals (
    go_wp2
    go_ret
    first | exact ⟨rfl, eb⟩ | exact ⟨rfl, ea⟩)
end Go.Proofs.Ytjhpffenlhfilaa
