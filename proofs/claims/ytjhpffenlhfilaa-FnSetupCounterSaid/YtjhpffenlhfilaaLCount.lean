/- The walk of the law on the counter of setup. -/
import Derived.Test.YtjhpffenlhfilaaTwo
import Derived.Test.YtjhpffenlhfilaaLSetup
namespace Go.Proofs.Ytjhpffenlhfilaa
open Go.RowKit Ch Mem

/-- The matrices of 0 with the counter added to the first k counters. -/
def addL (s0 s1 s2 s3 : V) (c : BitVec 32) (k : Nat) : List (BitVec 32) := (List.range 64).map fun i => if 48 ≤ i ∧ i < 48 + k then (setupL s0 s1 s2 s3 0).getD i 0 + c else (setupL s0 s1 s2 s3 0).getD i 0
theorem addL_length (s0 s1 s2 s3 : V) (c : BitVec 32) (k : Nat) : (addL s0 s1 s2 s3 c k).length = 64 := by simp [addL]
theorem addL_get (s0 s1 s2 s3 : V) (c : BitVec 32) (k i : Nat) (hi : i < 64) : (addL s0 s1 s2 s3 c k).getD i 0 = if 48 ≤ i ∧ i < 48 + k then (setupL s0 s1 s2 s3 0).getD i 0 + c else (setupL s0 s1 s2 s3 0).getD i 0 := by
  unfold addL
  rw [List.getD_eq_getElem?_getD, List.getElem?_map, List.getElem?_range hi]
  rfl
theorem addL_zero (s0 s1 s2 s3 : V) (c : BitVec 32) : addL s0 s1 s2 s3 c 0 = setupL s0 s1 s2 s3 0 :=
  list_ext_getD 64 (addL_length _ _ _ _ _ _) (setupL_length _ _ _ _ _) fun i hi => by rw [addL_get _ _ _ _ _ _ _ hi, if_neg (by omega)]
theorem addL_at (s0 s1 s2 s3 : V) (c : BitVec 32) (k : Nat) (hk : k < 4) : (addL s0 s1 s2 s3 c k).getD (48 + k) 0 = (setupL s0 s1 s2 s3 0).getD (48 + k) 0 := by
  rw [addL_get _ _ _ _ _ _ _ (by omega), if_neg (by omega)]
theorem addL_step (s0 s1 s2 s3 : V) (c : BitVec 32) (k : Nat) (hk : k < 4) : (addL s0 s1 s2 s3 c k).set (48 + k) ((addL s0 s1 s2 s3 c k).getD (48 + k) 0 + c) = addL s0 s1 s2 s3 c (k + 1) := by
  rw [addL_at _ _ _ _ _ _ hk]
  refine list_ext_getD 64 (by rw [List.length_set, addL_length]) (addL_length _ _ _ _ _ _) fun i hi => ?_
  rw [addL_get _ _ _ _ _ _ _ hi, List.getD_eq_getElem?_getD, List.getElem?_set, addL_length]
  by_cases h : 48 + k = i
  · rw [if_pos h, if_pos (by omega), if_pos (by omega), ← h]
    rfl
  · rw [if_neg h, ← List.getD_eq_getElem?_getD, addL_get _ _ _ _ _ _ _ hi]
    by_cases h1 : 48 ≤ i ∧ i < 48 + k
    · rw [if_pos h1, if_pos (by omega)]
    · rw [if_neg h1, if_neg (by omega)]
theorem addL_end (s0 s1 s2 s3 : V) (c : BitVec 32) : addL s0 s1 s2 s3 c 4 = setupL s0 s1 s2 s3 c := by
  refine list_ext_getD 64 (addL_length _ _ _ _ _ _) (setupL_length _ _ _ _ _) fun i hi => ?_
  rw [addL_get _ _ _ _ _ _ _ hi, setupL_get _ _ _ _ _ _ hi, setupL_get _ _ _ _ _ _ hi]
  have hm : i % 4 < 4 := Nat.mod_lt _ (by decide)
  rw [ctr_eq c _ hm, ctr_eq 0 _ hm]
  by_cases h : 48 ≤ i ∧ i < 48 + 4
  · rw [if_pos h, show i / 4 = 12 by omega]
    have e : ∀ k : BitVec 32, (0 : BitVec 32) + k + c = c + k := fun k => by
      rw [show (0 : BitVec 32) = 0#32 from rfl, BitVec.zero_add, BitVec.add_comm]
    exact e _
  · rw [if_neg h]
    have hne : i / 4 ≠ 12 := by omega
    have e : ∀ x y : BitVec 32, (mat s0 s1 s2 s3 x).getD (i / 4) 0 = (mat s0 s1 s2 s3 y).getD (i / 4) 0 := fun x y => by
      have es : mat s0 s1 s2 s3 x = (mat s0 s1 s2 s3 y).set 12 x := rfl
      rw [es, List.getD_eq_getElem?_getD, List.getElem?_set_ne (Ne.symm hne), ← List.getD_eq_getElem?_getD]
    exact e _ _
theorem setupL_first (s0 s1 s2 s3 : V) (c : BitVec 32) : (setupL s0 s1 s2 s3 c).getD 0 0 = 0x61707865#32 := by rw [setupL_get _ _ _ _ _ _ (by omega)]; rfl

def phiSC (gs : Nat) (S R1 R0 : List Value) (c : Int) : Nat → Fa
  | 0 => .val (.agg S.toArray)
  | 1 => .val (.int .u32 c)
  | 2 => .val (.agg R1.toArray)
  | 3 => .val (.agg S.toArray)
  | 4 => .val (.agg R0.toArray)
  | 5 => .blk gs 51 Z64
  | 6 => .blk gs 51 Z64
  | _ => .nil

attribute [local go_sem high] bo_add

set_option maxRecDepth 100000 in
set_option maxHeartbeats 4000000 in
theorem walk_FnSetupCounter (l0 : List Int) (hl0 : l0.length = 4) (w0 : ∀ x ∈ l0, (Lit.int .u64 x).wf = true) (a1 : Int) (w1 : (Lit.int .u32 a1).wf = true) (W : World) :
    Calls Try.prog 10 #[.agg (Eq.ints .u64 l0), .int .u32 a1] W fun e w' => e = .returned (.bool true) ∧ Below W.heap.size W w' := by
  obtain ⟨s0, s1, s2, s3, hs⟩ := seed_of hl0 w0
  obtain ⟨c, rfl⟩ := word_of w1
  rw [hs]
  obtain ⟨ti, hti, hz, _⟩ := row_of zero51
  have hz' : ti.zero = some (.agg Z64.toArray) := hz
  have h51 := Try.underlying51
  have h30 := Try.underlying30
  have ca := Lib.hid (fun w => implSetup_any s0 s1 s2 s3 c w)
  have cb0 := fun w => implSetup_any s0 s1 s2 s3 0 w
  have hn0 : n32 (0 : BitVec 32) = 0 := rfl
  rw [hn0] at cb0
  have cb := Lib.hid cb0
  clear cb0
  have hSi : (Try.prog.info? 30).map (·.size) = some (u64s [s0, s1, s2, s3]).length := by kernel_rfl
  clear hl0 w0 w1 hs
  go_enter Try.func10, Try.ntmps10
  go_wp2_with (refine wpList_box rfl 30 _ rfl _ (u64s [s0, s1, s2, s3]) rfl rfl ?_; intro gs wS hgs hltS hS hbS; (try go_frame))
  have eS : Below W.heap.size W wS.drew := below_drewN hbS 1
  refine wp_region_facts_tail 7
    (fun i v w => (phiSC gs (u64s [s0, s1, s2, s3]) (w32s (setupL s0 s1 s2 s3 c)) (w32s (setupL s0 s1 s2 s3 0)) (n32 c) i).ok v w)
    (Two W gs 30 (u64s [s0, s1, s2, s3]) 5 6)
    (fun j => match j with | 2 => [0, 1] | 4 => [3] | _ => []) (fun _ => []) (by kernel_rfl) (by kernel_rfl) ⟨hS.drew, eS, (fun g h => by cases h), (fun g h => by cases h), fun g g' h => by cases h⟩ ?_ ?_
  · intro j hj
    match j, hj with
    | 0, _ =>
      intro o ho a w K hd ht hr hC hp hK
      obtain rfl := Option.some.inj ho
      refine step_load_whole rfl _ _ rfl gs ((eval_tmp a 2).trans (hr 2 (by kernel_rfl))) hC.seed h30 rfl hSi ?_
      exact hK _ _ (fun h => by cases h) (hC.put (Below.refl _ _) _ (by decide) (by decide)) rfl fun p _ _ u h => h
    | 1, _ =>
      intro o ho a w K hd ht hr hC hp hK
      obtain rfl := Option.some.inj ho
      refine step_move rfl _ rfl _ ((eval_tmp a 1).trans (hr 1 (by kernel_rfl))) ?_
      exact hK _ _ (fun h => by cases h) (hC.put (Below.refl _ _) _ (by decide) (by decide)) rfl fun p _ _ u h => h
    | 2, _ =>
      intro o ho a w K hd ht hr hC hp hK
      obtain rfl := Option.some.inj ho
      have p0 := hp 0 (by decide) _ rfl
      have p1 := hp 1 (by decide) _ rfl
      refine step_func rfl _ _ Try.func30 (by kernel_rfl) (by kernel_rfl) _ _ rfl [.agg (u64s [s0, s1, s2, s3]).toArray, .int .u32 (n32 c)] (by
        show [a.eval (.tmp 8), a.eval (.tmp 9)] = _
        rw [eval_tmp, eval_tmp]
        exact congr (congrArg _ p0) (congrArg (fun x => [x]) p1)) ((ca.out w).mono ?_)
      rintro e w' ⟨rfl, hb⟩
      exact ⟨_, rfl, hK _ _ (fun h => by cases h) (hC.put hb _ (by decide) (by decide)) rfl fun p _ _ u h => Fa.keep hb h⟩
    | 3, _ =>
      intro o ho a w K hd ht hr hC hp hK
      obtain rfl := Option.some.inj ho
      refine step_load_whole rfl _ _ rfl gs ((eval_tmp a 2).trans (hr 2 (by kernel_rfl))) hC.seed h30 rfl hSi ?_
      exact hK _ _ (fun h => by cases h) (hC.put (Below.refl _ _) _ (by decide) (by decide)) rfl fun p _ _ u h => h
    | 4, _ =>
      intro o ho a w K hd ht hr hC hp hK
      obtain rfl := Option.some.inj ho
      have p0 := hp 3 (by decide) _ rfl
      refine step_func rfl _ _ Try.func30 (by kernel_rfl) (by kernel_rfl) _ _ rfl [.agg (u64s [s0, s1, s2, s3]).toArray, .int .u32 0] (by
        show [a.eval (.tmp 11), a.eval (.const (.int .u32 0))] = _
        rw [eval_tmp]
        exact congrArg (fun x => [x, a.eval (.const (.int .u32 0))]) p0) ((cb.out w).mono ?_)
      rintro e w' ⟨rfl, hb⟩
      exact ⟨_, rfl, hK _ _ (fun h => by cases h) (hC.put hb _ (by decide) (by decide)) rfl fun p _ _ u h => Fa.keep hb h⟩
    | 5, _ =>
      intro o ho a w K hd ht hr hC hp hK
      obtain rfl := Option.some.inj ho
      refine step_alloc rfl _ rfl ti _ Z64 hti hz' rfl fun g w' h1 h2 h3 hb => ?_
      exact hK _ _ (fun h => by cases h) (hC.put1 hb g h1 h2 (by decide) (by rw [ht]; exact Nat.le_of_ble_eq_true rfl)) ⟨g, rfl, Nat.lt_of_lt_of_le hC.seed.lt h1, h3⟩ fun p _ _ u h => Fa.keep hb h
    | 6, _ =>
      intro o ho a w K hd ht hr hC hp hK
      obtain rfl := Option.some.inj ho
      refine step_alloc rfl _ rfl ti _ Z64 hti hz' rfl fun g w' h1 h2 h3 hb => ?_
      exact hK _ _ (fun h => by cases h) (hC.put2 hb g h1 h2 (by decide) (by rw [ht]; exact Nat.le_of_ble_eq_true rfl)) ⟨g, rfl, Nat.lt_of_lt_of_le hC.seed.lt h1, h3⟩ fun p _ _ u h => Fa.keep hb h
  · intro a w hd ht hr hC hf
    obtain ⟨g5, f5, l5, B5⟩ := hf 5 _ (by decide) rfl (fun k _ h => by cases h)
    obtain ⟨g6, f6, l6, B6⟩ := hf 6 _ (by decide) rfl (fun k _ h => by cases h)
    have f0 := hf 0 _ (by decide) rfl (fun k _ h => by cases h)
    have f1 := hf 1 _ (by decide) rfl (fun k _ h => by cases h)
    have f2 := hf 2 _ (by decide) rfl (fun k _ h => by cases h)
    have f3 := hf 3 _ (by decide) rfl (fun k _ h => by cases h)
    have f4 := hf 4 _ (by decide) rfl (fun k _ h => by cases h)
    have hne := hC.apart g5 g6 f5 f6
    have hS' := hC.seed
    have hb' := hC.below
    obtain rfl := frame_of [(8, _), (9, _), (10, _), (11, _), (12, _), (5, _), (6, _)] 35 rfl (by kernel_rfl) hd ht hr (by
      intro p hp
      simp only [List.mem_cons, List.not_mem_nil, or_false] at hp
      rcases hp with rfl | rfl | rfl | rfl | rfl | rfl | rfl
      · exact f0
      · exact f1
      · exact f2
      · exact f3
      · exact f4
      · exact f5
      · exact f6)
    clear hd ht hr hC hf f0 f1 f2 f3 f4 f5 f6
    simp only [putL, Act.put, List.setIfInBounds_toArray, List.set_cons_zero, List.set_cons_succ, List.drop_succ_cons, List.drop_zero]
    have hi51 : ∀ c, (Try.prog.info? 51).map (·.size) = some (w32s (setupL s0 s1 s2 s3 c)).length := fun c => by rw [size51, w32s_length, setupL_length]
    refine wpList_store_all rfl 51 _ _ rfl g5 rfl B5 (w32s (setupL s0 s1 s2 s3 c)) rfl (by rw [w32s_length, setupL_length]; rfl) (w32s_one _) (hi51 _) ?_
    intro w5 A5 o5
    have B6' := B6.only o5 (Ne.symm hne)
    refine wpList_store_all rfl 51 _ _ rfl g6 rfl B6' (w32s (setupL s0 s1 s2 s3 0)) rfl (by rw [w32s_length, setupL_length]; rfl) (w32s_one _) (hi51 _) ?_
    intro w6 A6 o6
    have A5' := A5.only o6 hne
    have b6 : Below W.heap.size W w6 := (hb'.trans (o5.below _ (by omega))).trans (o6.below _ (by omega))
    have l5' := hgs
    rw [← addL_zero s0 s1 s2 s3 c] at A6
    clear B5 B6 B6' A5 o5 o6 hS' hb' ca cb hi51
    have eqs := fun w => eql51 (setupL s0 s1 s2 s3 c) (setupL_length _ _ _ _ _) w
    have EQS := Lib.hid eqs
    have hfst := setupL_first s0 s1 s2 s3 c
    have HFST := Lib.hid hfst
    clear eqs hfst hz hz' hti hn0 hSi hS hbS eS
    go_wp2_with fail
    go_loopw [7] (fun i wr => ∃ k : Nat, k ≤ 4 ∧ i = .int .i64 (k : Int) ∧ B wr g6 51 (w32s (addL s0 s1 s2 s3 c k)) ∧ B wr g5 51 (w32s (setupL s0 s1 s2 s3 c)) ∧ Below W.heap.size W wr) (fun i _ => 4 - (intOf i).toNat)
    case atStart => exact ⟨0, Nat.zero_le _, rfl, A6, A5', b6⟩
    case round =>
      clear A6 A5' b6
      obtain ⟨k, hk, rfl, hB, hA, hbel⟩ := hrel
      by_cases hk4 : k < 4
      · have hk' : (k : Int) < 4 := by omega
        have st := addL_step s0 s1 s2 s3 c k hk4
        have hl := addL_length s0 s1 s2 s3 c k
        have ST := Lib.hid st
        have HL := Lib.hid hl
        have q : wr.cell? ⟨g6, 48 + k, none⟩ = some (.int .u32 (n32 ((addL s0 s1 s2 s3 c k).getD (48 + k) 0))) := (hB.cell _).trans (w32s_get _ _ (by omega))
        clear st hl
        generalize (addL s0 s1 s2 s3 c k).getD (48 + k) 0 = x at q ST
        go_wp2_with (first
          | (refine wpList_store_one rfl 22 _ _ rfl g6 (48 + k) rfl hB (.int .u32 (n32 (x + c))) rfl (by rw [w32s_length, HL.out]; omega) rfl (by kernel_rfl) ?_; intro w7 hB7 hO7; (try go_frame); have hA7 := hA.only hO7 hne))
        go_roundw
        case rel => exact ⟨k + 1, by omega, by go_num, (by rw [← ST.out, ← w32s_set]; exact hB7), hA7, hbel.trans (hO7.below _ (by omega))⟩
        case measure => simp [intOf]; omega
      · have hk' : (4 : Int) ≤ (k : Int) := by omega
        obtain rfl : k = 4 := by omega
        rw [addL_end] at hB
        have eqs := EQS.out
        have hiR : (Try.prog.info? 51).map (·.size) = some (w32s (setupL s0 s1 s2 s3 c)).length := by rw [size51, w32s_length, setupL_length]
        have HIR := Lib.hid hiR
        have q0 : wr.cell? ⟨g5, 0, none⟩ = some (.int .u32 1634760805) := (hA.cell _).trans (by rw [w32s_get _ _ (by rw [setupL_length]; omega), HFST.out]; rfl)
        clear hiR EQS HFST
        generalize w32s (setupL s0 s1 s2 s3 c) = R at hA hB eqs HIR
        go_wp2_with (first
          | (refine wpList_load_all rfl 51 _ rfl g5 rfl hA h51 rfl HIR.out ?_)
          | (refine wpList_load_all rfl 51 _ rfl g6 rfl hB h51 rfl HIR.out ?_))
        go_ret
        exact ⟨rfl, hbel⟩
end Go.Proofs.Ytjhpffenlhfilaa
