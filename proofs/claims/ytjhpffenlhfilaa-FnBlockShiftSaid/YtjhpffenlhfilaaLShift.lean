/- The walk of the law on the blocks of a counter and of the next. -/
import Derived.Test.YtjhpffenlhfilaaTwo
import Derived.Test.YtjhpffenlhfilaaLBlock
namespace Go.Proofs.Ytjhpffenlhfilaa
open Go.RowKit Ch Mem

theorem ctr_next (c : BitVec 32) : ctr (c + 1#32) 0 = ctr c 1 ∧ ctr (c + 1#32) 1 = ctr c 2 ∧ ctr (c + 1#32) 2 = ctr c 3 := by
  refine ⟨rfl, ?_, ?_⟩
  · show c + 1#32 + 1#32 = c + 2#32
    rw [BitVec.add_assoc]; rfl
  · show c + 1#32 + 2#32 = c + 3#32
    rw [BitVec.add_assoc]; rfl

/-- What the blocks of a counter and of the next one share. -/
theorem shifted (s0 s1 s2 s3 : V) (c : BitVec 32) (i : Nat) (hi : i < 16) : ∃ p0 p1 p2 p3 p4 : BitVec 32,
    (blockL s0 s1 s2 s3 c).getD (2 * i) 0 = two p0 p1 ∧ (blockL s0 s1 s2 s3 c).getD (2 * i + 1) 0 = two p2 p3 ∧
    (blockL s0 s1 s2 s3 (c + 1#32)).getD (2 * i) 0 = two p1 p2 ∧ (blockL s0 s1 s2 s3 (c + 1#32)).getD (2 * i + 1) 0 = two p3 p4 := by
  obtain ⟨e1, e2⟩ := blockL_get s0 s1 s2 s3 c i hi
  obtain ⟨e3, e4⟩ := blockL_get s0 s1 s2 s3 (c + 1#32) i hi
  obtain ⟨f1, f2, f3⟩ := ctr_next c
  rw [f1, f2] at e3
  rw [f3] at e4
  exact ⟨_, _, _, _, _, e1, e2, e3, e4⟩

def phiBS (gs : Nat) (S R1 R2 : List Value) (c d : Int) : Nat → Fa
  | 0 => .val (.agg S.toArray)
  | 1 => .val (.int .u32 c)
  | 2 => .val (.agg R1.toArray)
  | 3 => .val (.agg S.toArray)
  | 4 => .val (.int .u32 c)
  | 5 => .val (.int .u32 d)
  | 6 => .val (.agg R2.toArray)
  | 7 => .blk gs 33 Z32
  | 8 => .blk gs 33 Z32
  | _ => .nil

theorem lo_shr_two (a b : BitVec 32) : lo (two a b >>> 32) = b := hi_two a b

attribute [local go_sem high] bo_shr64
attribute [local go_sem] n64_lo n64_wrap32 lo_two lo_shr_two

set_option maxRecDepth 100000 in
set_option maxHeartbeats 4000000 in
theorem walk_FnBlockShift (hbl : BlockC) (l0 : List Int) (hl0 : l0.length = 4) (w0 : ∀ x ∈ l0, (Lit.int .u64 x).wf = true) (a1 : Int) (w1 : (Lit.int .u32 a1).wf = true) (W : World) :
    Calls Try.prog 11 #[.agg (Eq.ints .u64 l0), .int .u32 a1] W fun e w' => e = .returned (.bool true) ∧ Below W.heap.size W w' := by
  obtain ⟨s0, s1, s2, s3, hs⟩ := seed_of hl0 w0
  obtain ⟨c, rfl⟩ := word_of w1
  rw [hs]
  obtain ⟨ti, hti, hz, _⟩ := row_of zero33'
  have hz' : ti.zero = some (.agg Z32.toArray) := hz
  have h33 := Try.underlying33
  have h30 := Try.underlying30
  have ca := Lib.hid (fun w => implBlock_any hbl s0 s1 s2 s3 c w)
  have cb := Lib.hid (fun w => implBlock_any hbl s0 s1 s2 s3 (c + 1#32) w)
  have cs := Lib.hid (fun w => blockSpec_any s0 s1 s2 s3 c w)
  have hSi : (Try.prog.info? 30).map (·.size) = some (u64s [s0, s1, s2, s3]).length := by kernel_rfl
  have HSI := Lib.hid hSi
  clear hl0 w0 w1 hs
  go_enter Try.func11, Try.ntmps11
  go_wp2_with (refine wpList_box rfl 30 _ rfl _ (u64s [s0, s1, s2, s3]) rfl rfl ?_; intro gs wS hgs hltS hS hbS; (try go_frame))
  have eS : Below W.heap.size W wS.drew := below_drewN hbS 1
  refine wp_region_facts_tail 9
    (fun i v w => (phiBS gs (u64s [s0, s1, s2, s3]) (u64s (blockL s0 s1 s2 s3 c)) (u64s (blockL s0 s1 s2 s3 (c + 1#32))) (n32 c) (n32 (c + 1#32)) i).ok v w)
    (Two W gs 30 (u64s [s0, s1, s2, s3]) 5 6)
    (fun j => match j with | 2 => [0, 1] | 5 => [4] | 6 => [3, 5] | _ => []) (fun _ => []) (by kernel_rfl) (by kernel_rfl) ⟨hS.drew, eS, (fun g h => by cases h), (fun g h => by cases h), fun g g' h => by cases h⟩ ?_ ?_
  · intro j hj
    match j, hj with
    | 0, _ | 3, _ =>
      intro o ho a w K hd ht hr hC hp hK
      obtain rfl := Option.some.inj ho
      refine step_load_whole rfl _ _ rfl gs ((eval_tmp a 2).trans (hr 2 (by kernel_rfl))) hC.seed h30 rfl hSi ?_
      exact hK _ _ (fun h => by cases h) (hC.put (Below.refl _ _) _ (by decide) (by decide)) rfl fun p _ _ u h => h
    | 1, _ | 4, _ =>
      intro o ho a w K hd ht hr hC hp hK
      obtain rfl := Option.some.inj ho
      refine step_move rfl _ rfl _ ((eval_tmp a 1).trans (hr 1 (by kernel_rfl))) ?_
      exact hK _ _ (fun h => by cases h) (hC.put (Below.refl _ _) _ (by decide) (by decide)) rfl fun p _ _ u h => h
    | 2, _ =>
      intro o ho a w K hd ht hr hC hp hK
      obtain rfl := Option.some.inj ho
      have p0 := hp 0 (by decide) _ rfl
      have p1 := hp 1 (by decide) _ rfl
      refine step_func rfl _ _ Try.func32 (by kernel_rfl) (by kernel_rfl) _ _ rfl [.agg (u64s [s0, s1, s2, s3]).toArray, .int .u32 (n32 c)] (by
        show [a.eval (.tmp 9), a.eval (.tmp 10)] = _
        rw [eval_tmp, eval_tmp]
        exact congr (congrArg _ p0) (congrArg (fun x => [x]) p1)) ((ca.out w).mono ?_)
      rintro e w' ⟨rfl, hb⟩
      exact ⟨_, rfl, hK _ _ (fun h => by cases h) (hC.put hb _ (by decide) (by decide)) rfl fun p _ _ u h => Fa.keep hb h⟩
    | 5, _ =>
      intro o ho a w K hd ht hr hC hp hK
      obtain rfl := Option.some.inj ho
      have p0 := hp 4 (by decide) _ rfl
      refine step_bin rfl _ _ _ _ _ rfl (.int .u32 (n32 c)) (.int .u32 (n32 1#32)) (.int .u32 (n32 (c + 1#32))) ((eval_tmp a 13).trans p0) rfl rfl (by rw [bo_add, Sem.run_pure]) ?_
      exact hK _ _ (fun h => by cases h) (hC.put (Below.refl _ _) _ (by decide) (by decide)) rfl fun p _ _ u h => h
    | 6, _ =>
      intro o ho a w K hd ht hr hC hp hK
      obtain rfl := Option.some.inj ho
      have p0 := hp 3 (by decide) _ rfl
      have p1 := hp 5 (by decide) _ rfl
      refine step_func rfl _ _ Try.func32 (by kernel_rfl) (by kernel_rfl) _ _ rfl [.agg (u64s [s0, s1, s2, s3]).toArray, .int .u32 (n32 (c + 1#32))] (by
        show [a.eval (.tmp 12), a.eval (.tmp 14)] = _
        rw [eval_tmp, eval_tmp]
        exact congr (congrArg _ p0) (congrArg (fun x => [x]) p1)) ((cb.out w).mono ?_)
      rintro e w' ⟨rfl, hb⟩
      exact ⟨_, rfl, hK _ _ (fun h => by cases h) (hC.put hb _ (by decide) (by decide)) rfl fun p _ _ u h => Fa.keep hb h⟩
    | 7, _ =>
      intro o ho a w K hd ht hr hC hp hK
      obtain rfl := Option.some.inj ho
      refine step_alloc rfl _ rfl ti _ Z32 hti hz' rfl fun g w' h1 h2 h3 hb => ?_
      exact hK _ _ (fun h => by cases h) (hC.put1 hb g h1 h2 (by decide) (by rw [ht]; exact Nat.le_of_ble_eq_true rfl)) ⟨g, rfl, Nat.lt_of_lt_of_le hC.seed.lt h1, h3⟩ fun p _ _ u h => Fa.keep hb h
    | 8, _ =>
      intro o ho a w K hd ht hr hC hp hK
      obtain rfl := Option.some.inj ho
      refine step_alloc rfl _ rfl ti _ Z32 hti hz' rfl fun g w' h1 h2 h3 hb => ?_
      exact hK _ _ (fun h => by cases h) (hC.put2 hb g h1 h2 (by decide) (by rw [ht]; exact Nat.le_of_ble_eq_true rfl)) ⟨g, rfl, Nat.lt_of_lt_of_le hC.seed.lt h1, h3⟩ fun p _ _ u h => Fa.keep hb h
  · intro a w hd ht hr hC hf
    obtain ⟨g5, f7, l5, B5⟩ := hf 7 _ (by decide) rfl (fun k _ h => by cases h)
    obtain ⟨g6, f8, l6, B6⟩ := hf 8 _ (by decide) rfl (fun k _ h => by cases h)
    have f0 := hf 0 _ (by decide) rfl (fun k _ h => by cases h)
    have f1 := hf 1 _ (by decide) rfl (fun k _ h => by cases h)
    have f2 := hf 2 _ (by decide) rfl (fun k _ h => by cases h)
    have f3 := hf 3 _ (by decide) rfl (fun k _ h => by cases h)
    have f4 := hf 4 _ (by decide) rfl (fun k _ h => by cases h)
    have f5 := hf 5 _ (by decide) rfl (fun k _ h => by cases h)
    have f6 := hf 6 _ (by decide) rfl (fun k _ h => by cases h)
    have hne := hC.apart g5 g6 f7 f8
    have hS' := hC.seed
    have hb' := hC.below
    obtain rfl := frame_of [(9, _), (10, _), (11, _), (12, _), (13, _), (14, _), (15, _), (5, _), (6, _)] 71 rfl (by kernel_rfl) hd ht hr (by
      intro p hp
      simp only [List.mem_cons, List.not_mem_nil, or_false] at hp
      rcases hp with rfl | rfl | rfl | rfl | rfl | rfl | rfl | rfl | rfl
      · exact f0
      · exact f1
      · exact f2
      · exact f3
      · exact f4
      · exact f5
      · exact f6
      · exact f7
      · exact f8)
    clear hd ht hr hC hf f0 f1 f2 f3 f4 f5 f6 f7 f8
    simp only [putL, Act.put, List.setIfInBounds_toArray, List.set_cons_zero, List.set_cons_succ, List.drop_succ_cons, List.drop_zero]
    have hi33 : ∀ c, (Try.prog.info? 33).map (·.size) = some (u64s (blockL s0 s1 s2 s3 c)).length := fun c => info32' _ (blockL_length _ _ _ _ _)
    have hRl : ∀ c, (u64s (blockL s0 s1 s2 s3 c)).length = Z32.length := fun c => by rw [u64s_length, blockL_length, Z32_length]
    refine wpList_store_all rfl 33 _ _ rfl g5 rfl B5 (u64s (blockL s0 s1 s2 s3 c)) rfl (hRl _) (u64s_one _) (hi33 _) ?_
    intro w5 A5 o5
    have B6' := B6.only o5 (Ne.symm hne)
    refine wpList_store_all rfl 33 _ _ rfl g6 rfl B6' (u64s (blockL s0 s1 s2 s3 (c + 1#32))) rfl (hRl _) (u64s_one _) (hi33 _) ?_
    intro w6 A6 o6
    have A5' := A5.only o6 hne
    have b6 : Below W.heap.size W w6 := (hb'.trans (o5.below _ (by omega))).trans (o6.below _ (by omega))
    have S6 := (hS'.only o5 (by omega)).only o6 (by omega)
    have HI33 := Lib.hid (hi33 c)
    have HRL := Lib.hid (hRl c)
    clear B5 B6 B6' A5 o5 o6 hS' hb' ca cb hz hS hbS eS hi33 hSi hRl
    have s6 := b6.size
    have hsh := Lib.hid (shifted s0 s1 s2 s3 c)
    generalize hRa : u64s (blockL s0 s1 s2 s3 c) = Ra at cs A5' HI33 HRL
    go_wp2_with (first
      | (refine wpList_load_all rfl 30 _ rfl gs rfl S6 h30 rfl HSI.out ?_)
      | (go_at_call 33; refine (cs.out _).mono ?_; rintro e w7 ⟨rfl, hb7⟩; have A57 := A5'.call hb7; have A67 := A6.call hb7)
      | (refine wpList_alloc rfl 33 rfl ti _ Z32 hti hz' rfl ?_; intro g7 w8 hg7 hlt8 hB8 hb8; (try go_frame); have A58 := A57.call hb8; have A68 := A67.call hb8)
      | (refine wpList_store_all rfl 33 _ _ rfl g7 rfl hB8 Ra rfl HRL.out (by rw [← hRa]; exact u64s_one _) HI33.out ?_; intro w9 hB9 hO9; (try go_frame)))
    have z7 := hb7.size
    have z5 : g5 < w6.heap.size := A5'.lt
    have z6 : g6 < w6.heap.size := A6.lt
    have A59 := A58.only hO9 (by omega)
    have A69 := A68.only hO9 (by omega)
    have b9 : Below W.heap.size W w9 := (below_call (below_call b6 s6 hb7) (by omega) hb8).trans (hO9.below _ (by omega))
    rw [← hRa] at A59 hB9
    clear hRa cs HRL HI33 HSI S6 A5' A6 A57 A67 A58 A68 hB8 hO9 hb7 hb8 hti hz'
    go_loopw [8] (fun i wr => ∃ k : Nat, k ≤ 16 ∧ i = .int .i64 (k : Int) ∧ B wr g5 33 (u64s (blockL s0 s1 s2 s3 c)) ∧ B wr g6 33 (u64s (blockL s0 s1 s2 s3 (c + 1#32))) ∧ B wr g7 33 (u64s (blockL s0 s1 s2 s3 c)) ∧ Below W.heap.size W wr) (fun i _ => 16 - (intOf i).toNat)
    case atStart => exact ⟨0, Nat.zero_le _, rfl, A59, A69, hB9, b9⟩
    case round =>
      clear A59 A69 hB9 b9
      obtain ⟨k, hk, rfl, hA, hB, hF, hbel⟩ := hrel
      by_cases hk16 : k < 16
      · have hk' : (k : Int) < 16 := by omega
        obtain ⟨p0, p1, p2, p3, p4, e1, e2, e3, e4⟩ := hsh.out k hk16
        have q1 : wr.cell? ⟨g5, 2 * k, none⟩ = some (.int .u64 (n64 (two p0 p1))) := (hA.cell _).trans (by rw [u64s_get _ _ (by rw [blockL_length]; omega), e1])
        have q2 : wr.cell? ⟨g5, 2 * k + 1, none⟩ = some (.int .u64 (n64 (two p2 p3))) := (hA.cell _).trans (by rw [u64s_get _ _ (by rw [blockL_length]; omega), e2])
        have q3 : wr.cell? ⟨g6, 2 * k, none⟩ = some (.int .u64 (n64 (two p1 p2))) := (hB.cell _).trans (by rw [u64s_get _ _ (by rw [blockL_length]; omega), e3])
        have q4 : wr.cell? ⟨g6, 2 * k + 1, none⟩ = some (.int .u64 (n64 (two p3 p4))) := (hB.cell _).trans (by rw [u64s_get _ _ (by rw [blockL_length]; omega), e4])
        clear e1 e2 e3 e4
        have v1 : IntKind.i64.wrap (2 * (k : Int)) = 2 * (k : Int) := by rw [IntKind.wrap_i64]; omega
        have v2 : IntKind.i64.wrap (2 * (k : Int) + 1) = 2 * (k : Int) + 1 := by rw [IntKind.wrap_i64]; omega
        have v3 : (0 : Int) ≤ 2 * (k : Int) := by omega
        have v4 : 2 * (k : Int) < 32 := by omega
        have v5 : (0 : Int) ≤ 2 * (k : Int) + 1 := by omega
        have v6 : 2 * (k : Int) + 1 < 32 := by omega
        have v7 : (2 * (k : Int)).toNat = 2 * k := by omega
        have v8 : (2 * (k : Int) + 1).toNat = 2 * k + 1 := by omega
        go_wp2_with fail
        go_quiet (fail)
        go_wp2_with fail
        go_roundw
        case rel => exact ⟨k + 1, by omega, by go_num, hA.drewN _, hB.drewN _, hF.drewN _, below_drewN hbel _⟩
        case measure => simp [intOf]; omega
      · have hk' : (16 : Int) ≤ (k : Int) := by omega
        have q1 : wr.cell? ⟨g5, 0, none⟩ = some (.int .u64 (n64 ((blockL s0 s1 s2 s3 c).getD 0 0))) := (hA.cell _).trans (u64s_get _ _ (by rw [blockL_length]; omega))
        have q3 : wr.cell? ⟨g7, 0, none⟩ = some (.int .u64 (n64 ((blockL s0 s1 s2 s3 c).getD 0 0))) := (hF.cell _).trans (u64s_get _ _ (by rw [blockL_length]; omega))
        go_wp2_with fail
        go_ret
        exact ⟨rfl, hbel⟩
end Go.Proofs.Ytjhpffenlhfilaa
