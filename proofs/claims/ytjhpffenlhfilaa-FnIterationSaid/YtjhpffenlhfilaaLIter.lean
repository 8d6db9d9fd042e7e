/- The walk of the law on the next iteration. -/
import Derived.Test.YtjhpffenlhfilaaWDraw
import Derived.Test.YtjhpffenlhfilaaLSetup
import Derived.Test.YtjhpffenlhfilaaPick
import Derived.BigQuiet
import Derived.Deep.QuietTactic
namespace Go.Proofs.Ytjhpffenlhfilaa
open Go.RowKit Ch Mem

theorem guard_Iter (l0 : List Int) (a1 : Int) (hg : a1 < 1 ∨ 200 < a1) (W : World) :
    Calls Try.prog 17 #[.agg (Eq.ints .u64 l0), .int .i64 a1] W fun e w' => e = .returned (.bool true) ∧ Below W.heap.size W w' := by
  generalize Eq.ints .u64 l0 = S
  by_cases h1 : a1 < 1
  · go_enter Try.func17, Try.ntmps17
    go_wp2
    go_ret
    exact ⟨rfl, (Below.refl _ _).alloc (Nat.le_refl _) _⟩
  · have h2 : 200 < a1 := by omega
    clear hg
    go_enter Try.func17, Try.ntmps17
    go_wp2
    go_ret
    exact ⟨rfl, (Below.refl _ _).alloc (Nat.le_refl _) _⟩

set_option maxRecDepth 100000 in
set_option maxHeartbeats 4000000 in
theorem walk_FnIteration (hb : BlockC) (l0 : List Int) (hl0 : l0.length = 4) (w0 : ∀ x ∈ l0, (Lit.int .u64 x).wf = true) (a1 : Int) (w1 : (Lit.int .i64 a1).wf = true) (W : World) :
    Calls Try.prog 17 #[.agg (Eq.ints .u64 l0), .int .i64 a1] W fun e w' => e = .returned (.bool true) ∧ Below W.heap.size W w' := by
  by_cases hg : a1 < 1 ∨ 200 < a1
  · exact guard_Iter l0 a1 hg W
  obtain ⟨s0, s1, s2, s3, hs⟩ := seed_of hl0 w0
  rw [hs]
  obtain ⟨n, rfl⟩ : ∃ n : Nat, a1 = (n : Int) := ⟨a1.toNat, by omega⟩
  have n1 : (1 : Int) ≤ (n : Int) := by omega
  have n2 : (n : Int) ≤ 200 := by omega
  clear hg w1 hl0 w0 hs
  have hz : n32 (12 : BitVec 32) = 12 := rfl
  have cB := fun w => implBlock_any hb s0 s1 s2 s3 12 w
  rw [hz] at cB
  have hit := fun k => seeded_iter s0 s1 s2 s3 k
  have hbl := blockL_length s0 s1 s2 s3 12
  obtain ⟨ti, hti, hzz, _⟩ := row_of zero33'
  have hz' : ti.zero = some (.agg Z32.toArray) := hzz
  have h33 := Try.underlying33
  have h30 := Try.underlying30
  generalize blockL s0 s1 s2 s3 12 = K at cB hit hbl
  have iK := Lib.hid (info32' _ hbl)
  have oK := u64s_one K
  have lK := Lib.hid (show (u64s K).length = Z32.length by rw [u64s_length, hbl, Z32_length])
  have HBL := Lib.hid hbl
  have k28 : (u64s K)[28]? = some (.int .u64 (n64 (K.getD 28 0))) := u64s_get _ _ (by omega)
  have k29 : (u64s K)[29]? = some (.int .u64 (n64 (K.getD 29 0))) := u64s_get _ _ (by omega)
  have k30 : (u64s K)[30]? = some (.int .u64 (n64 (K.getD 30 0))) := u64s_get _ _ (by omega)
  have k31 : (u64s K)[31]? = some (.int .u64 (n64 (K.getD 31 0))) := u64s_get _ _ (by omega)
  generalize K.getD 28 0 = t0 at k28 hit
  generalize K.getD 29 0 = t1 at k29 hit
  generalize K.getD 30 0 = t2 at k30 hit
  generalize K.getD 31 0 = t3 at k31 hit
  have cD := fun w => draw_any hb t0 t1 t2 t3 n (by omega) w
  have cE := fun w => draw_any hb s0 s1 s2 s3 (124 + n) (by omega) w
  have hla := (seeded t0 t1 t2 t3).list_get n
  have hlb := (seeded s0 s1 s2 s3).list_get (124 + n)
  have hda := (seeded t0 t1 t2 t3).list_length n
  have hdb := (seeded s0 s1 s2 s3).list_length (124 + n)
  have heq : ∀ k, k < n → ((seeded s0 s1 s2 s3).list (124 + n)).getD (124 + k) 0 = ((seeded t0 t1 t2 t3).list n).getD k 0 := fun k hk => by
    rw [hla k hk, hlb (124 + k) (by omega), hit k]
  clear hla hlb hit hbl hzz
  generalize (seeded t0 t1 t2 t3).list n = LA at cD heq hda
  generalize (seeded s0 s1 s2 s3).list (124 + n) = LB at cE heq hdb
  have HEQ := Lib.hid heq
  have HDA := Lib.hid hda
  have HDB := Lib.hid hdb
  have CD := Lib.hid cD
  have CE := Lib.hid cE
  clear heq hda hdb cD cE
  have hSi : (Try.prog.info? 30).map (·.size) = some (u64s [s0, s1, s2, s3]).length := by kernel_rfl
  go_enter Try.func17, Try.ntmps17
  go_wp2_with (first
    | (refine wpList_box rfl 30 _ rfl _ (u64s [s0, s1, s2, s3]) rfl rfl ?_; intro gs w1 hgs hlt1 hS1 hb1; (try go_frame))
    | (refine wpList_load_all rfl 30 _ rfl gs rfl hS1 h30 rfl hSi ?_)
    | (go_at_call 32; refine (cB _).mono ?_; rintro e w2 ⟨rfl, hb2⟩; have hS2 := hS1.call hb2; have e2 := below_call hb1 hb1.size hb2)
    | (refine wpList_alloc rfl 33 rfl ti _ Z32 hti hz' rfl ?_; intro g5 w3 hg5 hlt3 hK3 hb3; (try go_frame); have hS3 := hS2.call hb3; have e3 := below_call e2 e2.size hb3; have nsk : gs ≠ g5 := (by have := hS2.lt; omega); have lg5 : W.heap.size ≤ g5 := (by have := e2.size; omega))
    | (refine wpList_store_all rfl 33 _ _ rfl g5 rfl hK3 (u64s K) rfl lK.out oK iK.out ?_; intro w4 hK4 hO4; (try go_frame); have hS4 := hS3.only hO4 nsk; have e4 := e3.trans (hO4.below _ lg5)))
  have hw1 : IntKind.i64.wrap (124 + (n : Int)) = 124 + (n : Int) := by rw [IntKind.wrap_i64]; omega
  have hcast : ((124 + n : Nat) : Int) = 124 + (n : Int) := by omega
  have CE' := CE.out
  rw [hcast] at CE'
  have CE := Lib.hid CE'
  clear CE'
  have e4' : Below W.heap.size W w4.drew := below_drewN e4 1
  refine wp_region_pick (fun w => B w g5 33 (u64s K) ∧ B w gs 30 (u64s [s0, s1, s2, s3])) [0, 1, 2, 3, 4, 5, 6, 7, 8, 9, 11, 12, 13] [10, 14, 15, 16] (by kernel_rfl) (by kernel_rfl) (fun _ _ d _ _ h => by cases d <;> exact h) ⟨hK4.drew, hS4.drew⟩ ?_
  simp only [pick, List.drop_succ_cons, List.drop_zero]
  refine ⟨?_, Or.inl ⟨by rfl, ?_⟩, ?_⟩
  rotate_left
  · intro w hw; go_simp; try with_reducible rfl
  simp only [Act.put, List.setIfInBounds_toArray, List.set_cons_zero, List.set_cons_succ]
  refine ⟨?_, Or.inl ⟨by rfl, ?_⟩, ?_⟩
  rotate_left
  · intro w hw; have f := (B.cell hw.1 28).trans k28; go_simp; try with_reducible rfl
  simp only [Act.put, List.setIfInBounds_toArray, List.set_cons_zero, List.set_cons_succ]
  refine ⟨?_, Or.inl ⟨by rfl, ?_⟩, ?_⟩
  rotate_left
  · intro w hw; go_simp; try with_reducible rfl
  simp only [Act.put, List.setIfInBounds_toArray, List.set_cons_zero, List.set_cons_succ]
  refine ⟨?_, Or.inl ⟨by rfl, ?_⟩, ?_⟩
  rotate_left
  · intro w hw; have f := (B.cell hw.1 29).trans k29; go_simp; try with_reducible rfl
  simp only [Act.put, List.setIfInBounds_toArray, List.set_cons_zero, List.set_cons_succ]
  refine ⟨?_, Or.inl ⟨by rfl, ?_⟩, ?_⟩
  rotate_left
  · intro w hw; go_simp; try with_reducible rfl
  simp only [Act.put, List.setIfInBounds_toArray, List.set_cons_zero, List.set_cons_succ]
  refine ⟨?_, Or.inl ⟨by rfl, ?_⟩, ?_⟩
  rotate_left
  · intro w hw; have f := (B.cell hw.1 30).trans k30; go_simp; try with_reducible rfl
  simp only [Act.put, List.setIfInBounds_toArray, List.set_cons_zero, List.set_cons_succ]
  refine ⟨?_, Or.inl ⟨by rfl, ?_⟩, ?_⟩
  rotate_left
  · intro w hw; go_simp; try with_reducible rfl
  simp only [Act.put, List.setIfInBounds_toArray, List.set_cons_zero, List.set_cons_succ]
  refine ⟨?_, Or.inl ⟨by rfl, ?_⟩, ?_⟩
  rotate_left
  · intro w hw; have f := (B.cell hw.1 31).trans k31; go_simp; try with_reducible rfl
  simp only [Act.put, List.setIfInBounds_toArray, List.set_cons_zero, List.set_cons_succ]
  refine ⟨?_, Or.inl ⟨by rfl, ?_⟩, ?_⟩
  rotate_left
  · intro w hw; go_simp; try with_reducible rfl
  simp only [Act.put, List.setIfInBounds_toArray, List.set_cons_zero, List.set_cons_succ]
  refine ⟨?_, Or.inl ⟨by rfl, ?_⟩, ?_⟩
  rotate_left
  · intro w hw; go_simp; try with_reducible rfl
  simp only [Act.put, List.setIfInBounds_toArray, List.set_cons_zero, List.set_cons_succ]
  refine ⟨_, yieldsIf_load_part rfl 30 _ rfl gs 0 rfl (fun w h => h.2) (u64s [s0, s1, s2, s3]) (by rw [List.drop_zero]; exact List.take_length) h30 rfl hSi, ?_⟩
  simp only [Act.put, List.setIfInBounds_toArray, List.set_cons_zero, List.set_cons_succ]
  refine ⟨?_, Or.inl ⟨by rfl, ?_⟩, ?_⟩
  rotate_left
  · intro w hw; go_simp; try with_reducible rfl
  simp only [Act.put, List.setIfInBounds_toArray, List.set_cons_zero, List.set_cons_succ]
  refine ⟨?_, Or.inl ⟨by rfl, ?_⟩, ?_⟩
  rotate_left
  · intro w hw; go_simp; try with_reducible rfl
  simp only [Act.put, List.setIfInBounds_toArray, List.set_cons_zero, List.set_cons_succ]
  refine wpFirst_nil ?_
  have hK5 := hK4.drew
  have hS5 := hS4.drew
  generalize w4.drew = w5 at hK5 hS5 e4' ⊢
  clear hK4 hS4 hO4 hS3 hK3 hb3 hS2 hb2 hb1 hS1 e2 e3 e4
  refine wpThen_step (fun K hK => ?_)
  go_simp
  refine (CD.out _).mono ?_
  rintro e w6 ⟨A1, c1, rfl, hr1, hb6⟩
  have hK6 := hK5.call hb6
  have hS6 := hS5.call hb6
  have e6 := below_call e4' e4'.size hb6
  go_simp
  refine hK _ _ ⟨hK6, hS6⟩ ?_
  clear hK K
  refine wpThen_step (fun K hK => ?_)
  go_simp
  refine (CE.out _).mono ?_
  rintro e w7 ⟨A2, c2, rfl, hr2, hb7⟩
  have hK7 := hK6.call hb7
  have hS7 := hS6.call hb7
  have e7 := below_call e6 e6.size hb7
  have hr1' := hr1.below hb7
  go_simp
  refine hK _ _ ⟨hK7, hS7⟩ ?_
  clear hK K
  iterate 2
    refine wpThen_step (fun K hK => ?_)
    go_simp
    refine hK _ _ ⟨hK7, hS7⟩ ?_
    clear hK K
  refine wpThen_nil ?_
  go_wp2
  have e7s := e7.size
  generalize w6.heap.size = B1 at hr1'
  generalize w7.heap.size = B2 at hr2
  go_loopw [8] (fun i wr => ∃ k : Nat, k ≤ n ∧ i = .int .i64 (k : Int) ∧ Reads wr B1 1 A1 n (u64s LA) ∧ Reads wr B2 1 A2 (124 + n) (u64s LB) ∧ Below W.heap.size W wr) (fun i _ => n - (intOf i).toNat)
  case atStart => exact ⟨0, Nat.zero_le _, rfl, hr1', hr2, e7⟩
  case round =>
    clear hr1' hr2 e7 hr1 hb7 hb6 hK5 hS5 hK6 hS6 hK7 hS7 e6 e4' e7s
    obtain ⟨k, hk, rfl, hrA, hrB, hbel⟩ := hrel
    by_cases hlt : k < n
    · have hlt' : (k : Int) < (n : Int) := by omega
      have e0 := HEQ.out k hlt
      obtain ⟨ad, u, hA1, _, hu, hc⟩ := hrA.at_ hlt
      obtain ⟨ad2, u2, hA2, _, hu2, hc2⟩ := hrB.at_ (show 124 + k < 124 + n by omega)
      rw [u64s_get _ _ (by rw [HDA.out]; exact hlt)] at hu
      rw [u64s_get _ _ (by rw [HDB.out]; omega), e0] at hu2
      obtain rfl := Option.some.inj hu
      obtain rfl := Option.some.inj hu2
      subst hA1
      subst hA2
      clear e0 hu hu2
      generalize LA.getD k 0 = v at hc hc2
      have hw2 : IntKind.i64.wrap (124 + (k : Int)) = 124 + (k : Int) := by rw [IntKind.wrap_i64]; omega
      have ht : (124 + (k : Int)).toNat = 124 + k := by omega
      have q1 : 124 + (k : Int) < 124 + (n : Int) := by omega
      have q2 : (0 : Int) ≤ 124 + (k : Int) := by omega
      go_wp2_with fail
      go_quiet (fail)
      have hrA' := hrA.drewN nq
      have hrB' := hrB.drewN nq
      have hbel' := below_drewN hbel nq
      go_wp2
      go_roundw
      case rel => exact ⟨k + 1, by omega, by go_num, hrA', hrB', hbel'⟩
      case measure => simp [intOf]; omega
    · have hge : (n : Int) ≤ (k : Int) := by omega
      go_wp2
      go_ret
      exact ⟨rfl, hbel⟩
end Go.Proofs.Ytjhpffenlhfilaa
