/- The walks of the laws on setup. -/
import Derived.Test.YtjhpffenlhfilaaWSetSpec
import Derived.Test.YtjhpffenlhfilaaLQr
import Derived.Test.YtjhpffenlhfilaaOpen
import Derived.Deep.RegionWith
namespace Go.Proofs.Ytjhpffenlhfilaa
open Go.RowKit Ch Mem

/-- Four numbers that came in by value. -/
theorem seed_of {l : List Int} (hl : l.length = 4) (h : ∀ x ∈ l, (Lit.int .u64 x).wf = true) : ∃ s0 s1 s2 s3 : V, Eq.ints .u64 l = (u64s [s0, s1, s2, s3]).toArray := by
  have one : ∀ x ∈ l, ∃ s : V, x = n64 s := fun x hx => by
    have hw := h x hx
    simp [Lit.wf, IntKind.min, IntKind.max, IntKind.signed, IntKind.bits] at hw
    refine ⟨BitVec.ofNat 64 x.toNat, ?_⟩
    unfold n64
    rw [BitVec.toNat_ofNat]
    omega
  match l, hl with
  | [a, b, c, d], _ =>
    obtain ⟨s0, h0⟩ := one a (by simp)
    obtain ⟨s1, h1⟩ := one b (by simp)
    obtain ⟨s2, h2⟩ := one c (by simp)
    obtain ⟨s3, h3⟩ := one d (by simp)
    exact ⟨s0, s1, s2, s3, by rw [h0, h1, h2, h3]; rfl⟩

theorem eql51 (M : List W) (h : M.length = 64) (w : World) : (binOp .eql 51 (.agg (w32s M).toArray) (.agg (w32s M).toArray)).run Try.prog w = .ok (.bool true) w := by
  obtain ⟨ti, hti, hsz⟩ : ∃ ti, Try.prog.info? 25 = some ti ∧ ti.size = 4 := by
    have h : (Try.prog.info? 25).map (·.size) = some 4 := by kernel_rfl
    cases hq : Try.prog.info? 25 with
    | none => rw [hq] at h; cases h
    | some ti => rw [hq] at h; injection h with h; exact ⟨ti, rfl, h⟩
  obtain ⟨tj, htj, hsj⟩ : ∃ ti, Try.prog.info? 22 = some ti ∧ ti.size = 1 := by
    have h : (Try.prog.info? 22).map (·.size) = some 1 := by kernel_rfl
    cases hq : Try.prog.info? 22 with
    | none => rw [hq] at h; cases h
    | some ti => rw [hq] at h; injection h with h; exact ⟨ti, rfl, h⟩
  have hall : ((List.range 16).all fun _ => true) = true := by decide
  rw [run_eql_struct, show (10000 : Nat) = 9999 + 1 from rfl, Eq.run_equalIn_array 9999 Try.underlying51 hti hsz (w32s M).toArray (w32s M).toArray (fun _ => true) w, hall]
  · rfl
  · intro i hi
    refine ⟨_, _, Eq.run_part_array Try.underlying25 hti hsz _ _ w, Eq.run_part_array Try.underlying25 hti hsz _ _ w, ?_⟩
    have e : (w32s M).toArray.extract (i * 4) (i * 4 + 4) = Eq.ints .u32 (((M.drop (i * 4)).take 4).map n32) := by
      apply Array.ext'
      simp [Eq.ints, w32s, List.extract, List.map_drop, List.map_take, Function.comp_def]
    have hl : (((M.drop (i * 4)).take 4).map n32).length = 4 := by
      simp; omega
    rw [e, show (9999 : Nat) = 9997 + 2 from rfl, Eq.run_equalIn_ints 9997 Try.underlying25 Try.underlying22 htj hsj _ _ hl hl w, beq_self_eq_true]

def loadSeed (p : Value) : Sem Value := Instr.loadAt 30 p
theorem loadSeed_eq (p : Value) : Instr.loadAt 30 p = loadSeed p := rfl
theorem run_loadSeed {w : World} {gs : Nat} {s0 s1 s2 s3 : V} (h : B w gs 30 (u64s [s0, s1, s2, s3])) : (loadSeed (.pointer (some ⟨gs, 0, none⟩))).run Try.prog w = .ok (.agg (u64s [s0, s1, s2, s3]).toArray) w :=
  run_loadAt_mid w gs 0 _ _ _ (h.rangeAt 0 _ (by rw [List.drop_zero]; exact List.take_length)) Try.underlying30 rfl (by kernel_rfl)

attribute [local go_sem ↓] loadSeed_eq

set_option maxRecDepth 100000 in
set_option maxHeartbeats 2000000 in
theorem walk_FnExactSetup (l0 : List Int) (hl0 : l0.length = 4) (w0 : ∀ x ∈ l0, (Lit.int .u64 x).wf = true) (a1 : Int) (w1 : (Lit.int .u32 a1).wf = true) (W : World) :
    Calls Try.prog 9 #[.agg (Eq.ints .u64 l0), .int .u32 a1] W fun e w' => e = .returned (.bool true) ∧ Below W.heap.size W w' := by
  obtain ⟨s0, s1, s2, s3, hs⟩ := seed_of hl0 w0
  obtain ⟨c, rfl⟩ := word_of w1
  rw [hs]
  have eqs := fun w => eql51 (setupL s0 s1 s2 s3 c) (setupL_length _ _ _ _ _) w
  have ca := fun w => implSetup_any s0 s1 s2 s3 c w
  have cb := fun w => setSpec_any s0 s1 s2 s3 c w
  generalize w32s (setupL s0 s1 s2 s3 c) = R at eqs ca cb
  have ldS : ∀ w gs, B w gs 30 (u64s [s0, s1, s2, s3]) → (loadSeed (.pointer (some ⟨gs, 0, none⟩))).run Try.prog w = .ok (.agg (u64s [s0, s1, s2, s3]).toArray) w := fun w gs h => run_loadSeed h
  clear hl0 w0 w1 hs
  generalize u64s [s0, s1, s2, s3] = S at ca cb ldS ⊢
  go_enter Try.func9, Try.ntmps9
  go_wp2_with (refine wpList_box rfl 30 _ rfl _ S rfl rfl ?_; intro gs wS hgs hltS hS hbS; (try go_frame))
  have hS0 := hS.drew
  have E0 := ldS _ _ hS0
  have e0 : Below W.heap.size W wS.drew := below_drewN hbS 1
  have hsz := hbS.size
  go_region_with (first
    | (go_at_call 30; refine (ca _).mono ?_; rintro e wa ⟨rfl, hba⟩; (first | (have hSa := hSb.call hba; have ea := below_call eb eb.size hba) | (have hSa := hS0.call hba; have ea := below_call e0 hsz hba)); have Ea := ldS _ _ hSa)
    | (go_at_call 31; refine (cb _).mono ?_; rintro e wb ⟨rfl, hbb⟩; (first | (have hSb := hSa.call hbb; have eb := below_call ea ea.size hbb) | (have hSb := hS0.call hbb; have eb := below_call e0 hsz hbb)); have Eb := ldS _ _ hSb))
  all_goals (
    go_wp2
    go_ret
    first | exact ⟨rfl, eb⟩ | exact ⟨rfl, ea⟩)
end Go.Proofs.Ytjhpffenlhfilaa
