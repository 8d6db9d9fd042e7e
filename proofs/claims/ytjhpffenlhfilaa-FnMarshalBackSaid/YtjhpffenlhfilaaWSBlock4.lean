/- The walk of the reference's Block. -/
import Derived.Test.YtjhpffenlhfilaaWSBlock
import Derived.Test.YtjhpffenlhfilaaWSetSpec
namespace Go.Proofs.Ytjhpffenlhfilaa.Ch
open Go.RowKit Mem

attribute [local go_sem high] bo_shl64 bo_shr64 bo_or64 bo_shl64w bo_or64w bo_orw64 bo_add
attribute [local go_sem] n64_lo n64_wrap32 n64_wrapw n32_wrap_self

theorem zero33 : (Try.prog.info? 33).map (fun i => (i.zero, i.size)) = some (some (.agg (u64s (List.replicate 32 0)).toArray), 32) := by kernel_rfl
theorem size33 : (Try.prog.info? 33).map (·.size) = some 32 := by kernel_rfl
theorem build33 (w : World) : (Instr.build 33 #[]).run Try.prog w = .ok (.agg Z32.toArray) w := by kernel_rfl
theorem info32 (Y : List V) (h : Y.length = 32) : (Try.prog.info? 33).map (·.size) = some (u64s Y).length := by rw [size33, u64s_length, h]

theorem list_ext_getDV {l m : List V} (n : Nat) (hl : l.length = n) (hm : m.length = n) (h : ∀ i, i < n → l.getD i 0 = m.getD i 0) : l = m := by
  apply List.ext_getElem (by omega)
  intro i h1 h2
  have := h i (by omega)
  simpa [List.getD, h1, h2] using this

/-- Word i of block k', as far as it is laid. -/
def laid (f : Nat → List W) (k i k' i' : Nat) : W := if k' < k ∨ (k' = k ∧ i' < i) then (f k').getD i' 0 else 0
/-- The numbers behind k blocks and i words of the next one. -/
def part4 (f : Nat → List W) (k i : Nat) : List V := (List.range 32).map fun p => two (laid f k i (2 * (p % 2)) (p / 2)) (laid f k i (2 * (p % 2) + 1) (p / 2))
theorem part4_length (f : Nat → List W) (k i : Nat) : (part4 f k i).length = 32 := by simp [part4]
theorem part4_get (f : Nat → List W) (k i p : Nat) (hp : p < 32) : (part4 f k i).getD p 0 = two (laid f k i (2 * (p % 2)) (p / 2)) (laid f k i (2 * (p % 2) + 1) (p / 2)) := by
  unfold part4
  rw [List.getD_eq_getElem?_getD, List.getElem?_map, List.getElem?_range hp]
  rfl
theorem laid_done {f : Nat → List W} {k i k' i' : Nat} (h : k' < k ∨ (k' = k ∧ i' < i)) : laid f k i k' i' = (f k').getD i' 0 := if_pos h
theorem laid_not {f : Nat → List W} {k i k' i' : Nat} (h : ¬ (k' < k ∨ (k' = k ∧ i' < i))) : laid f k i k' i' = 0 := if_neg h
theorem part4_zero (f : Nat → List W) : part4 f 0 0 = List.replicate 32 0 :=
  list_ext_getDV 32 (part4_length _ _ _) (by simp) fun p hp => by
    rw [part4_get _ _ _ _ hp, laid_not (by omega), laid_not (by omega), List.getD_eq_getElem?_getD, List.getElem?_replicate, if_pos hp]
    decide
theorem part4_next (f : Nat → List W) (k : Nat) : part4 f k 16 = part4 f (k + 1) 0 :=
  list_ext_getDV 32 (part4_length _ _ _) (part4_length _ _ _) fun p hp => by
    have h : ∀ k', laid f k 16 k' (p / 2) = laid f (k + 1) 0 k' (p / 2) := fun k' => by
      by_cases h : k' ≤ k
      · rw [laid_done (by omega), laid_done (by omega)]
      · rw [laid_not (by omega), laid_not (by omega)]
    rw [part4_get _ _ _ _ hp, part4_get _ _ _ _ hp, h, h]
theorem two_low (x : W) : two 0 0 ||| (x.setWidth 64 <<< 0) = two x 0 := by
  have h : two 0 0 = 0 := by decide
  rw [h, BitVec.shiftLeft_zero]
  unfold two
  simp
theorem two_high (x y : W) : two y 0 ||| (x.setWidth 64 <<< 32) = two y x := by
  unfold two
  simp
theorem part4_step (f : Nat → List W) (k i : Nat) (hk : k < 4) (_ : i < 16) :
    (part4 f k i).set (2 * i + k / 2) ((part4 f k i).getD (2 * i + k / 2) 0 ||| (((f k).getD i 0).setWidth 64 <<< (32 * (k % 2)))) = part4 f k (i + 1) := by
  refine list_ext_getDV 32 (by rw [List.length_set, part4_length]) (part4_length _ _ _) fun p hp => ?_
  rw [part4_get _ _ _ _ hp, List.getD_eq_getElem?_getD, List.getElem?_set, part4_length]
  by_cases h : 2 * i + k / 2 = p
  · subst h
    rw [if_pos rfl, if_pos hp, Option.getD_some, part4_get _ _ _ _ hp, show (2 * i + k / 2) / 2 = i by omega, show (2 * i + k / 2) % 2 = k / 2 by omega]
    by_cases h2 : k % 2 = 0
    · rw [h2, laid_not (by omega), laid_not (by omega), laid_done (by omega), laid_not (by omega), show 2 * (k / 2) = k by omega]
      exact two_low _
    · rw [show k % 2 = 1 by omega, laid_done (k' := 2 * (k / 2)) (by omega), laid_not (by omega), laid_done (k' := 2 * (k / 2)) (by omega), laid_done (by omega), show 2 * (k / 2) + 1 = k by omega]
      exact two_high _ _
  · rw [if_neg h, ← List.getD_eq_getElem?_getD, part4_get _ _ _ _ hp]
    have hs : ∀ k', k' = 2 * (p % 2) ∨ k' = 2 * (p % 2) + 1 → laid f k i k' (p / 2) = laid f k (i + 1) k' (p / 2) := fun k' hk' => by
      by_cases h3 : k' < k ∨ (k' = k ∧ p / 2 < i)
      · rw [laid_done h3, laid_done (by omega)]
      · rw [laid_not h3, laid_not (by omega)]
    rw [hs _ (.inl rfl), hs _ (.inr rfl)]
theorem part4_end (s0 s1 s2 s3 : V) (c : W) : part4 (fun k => blkOf s0 s1 s2 s3 (ctr c k)) 4 0 = blockL s0 s1 s2 s3 c :=
  list_ext_getDV 32 (part4_length _ _ _) (blockL_length _ _ _ _ _) fun p hp => by
    obtain ⟨e0, e1⟩ := blockL_get s0 s1 s2 s3 c (p / 2) (by omega)
    rw [part4_get _ _ _ _ hp, laid_done (by omega), laid_done (by omega)]
    rcases Nat.mod_two_eq_zero_or_one p with h | h
    · rw [h, show p = 2 * (p / 2) by omega, e0, show 2 * (p / 2) / 2 = p / 2 by omega]
    · rw [h]
      have hp' : p = 2 * (p / 2) + 1 := by omega
      generalize p / 2 = q at hp' e1
      rw [hp', e1]

set_option maxRecDepth 100000 in
set_option maxHeartbeats 2000000 in
theorem blockSpec_any (s0 s1 s2 s3 : V) (c : W) (w : World) :
    Calls Try.prog 33 #[.agg (u64s [s0, s1, s2, s3]).toArray, .int .u32 (n32 c)] w fun e w' =>
      e = .returned (.agg (u64s (blockL s0 s1 s2 s3 c)).toArray) ∧ Below w.heap.size w w' := by
  obtain ⟨ti, hti, hz, hsz⟩ := row_of zero33
  have hz' : ti.zero = some (.agg Z32.toArray) := hz
  obtain ⟨tj, htj, hy, _⟩ := row_of zero79
  have hy' : tj.zero = some (.agg Z16.toArray) := hy
  have h33 := Try.underlying33
  have h30 := Try.underlying30
  have bld := build33
  have hiz : (Try.prog.info? 33).map (·.size) = some Z32.length := by rw [size33, Z32_length]
  have hoz : ∀ v ∈ Z32, v.oneCell' = true := u64s_one _
  have hend := part4_end s0 s1 s2 s3 c
  have HEND := Lib.hid hend
  have hg0 : Z32 = u64s (part4 (fun k => blkOf s0 s1 s2 s3 (ctr c k)) 0 0) := by rw [part4_zero]; rfl
  have HG0 := Lib.hid hg0
  clear hend hg0
  go_enter Try.func33, Try.ntmps33
  go_wp2_with (first
    | (refine wpList_box rfl 30 _ rfl _ (u64s [s0, s1, s2, s3]) rfl rfl ?_; intro gs w1 hgs hlt1 hS1 hb1; (try go_frame); have hS10 := hS1)
    | (refine wpList_alloc rfl 33 rfl ti _ Z32 hti hz' rfl ?_; intro g4 w2 hg4 hlt2 hB2 hb2; (try go_frame); have hS2 := hS10.call hb2; clear hS10)
    | (refine wpList_build0 rfl 33 rfl _ bld ?_; (try go_frame))
    | (refine wpList_alloc rfl 33 rfl ti _ Z32 hti hz' rfl ?_; intro g5 w3 hg5 hlt3 hB3 hb3; (try go_frame); have hS3 := hS2.call hb3; have hD3 := hB2.call hb3)
    | (refine wpList_store_all rfl 33 _ _ rfl g5 rfl hB3 Z32 rfl rfl hoz hiz ?_; intro w4 hB4 hO4; (try go_frame)))
  have s1' := hb1.size
  have s2' := hb2.size
  have b4 : Below w.heap.size w w4 := (below_call (below_call hb1 s1' hb2) (by omega) hb3).trans (hO4.below _ (by omega))
  have n45 : g4 ≠ g5 := by omega
  have ns5 : gs ≠ g5 := by omega
  have hS4 := hS3.only hO4 ns5
  have hD4 := hD3.only hO4 n45
  have hg4' : w.heap.size ≤ g4 := by omega
  have hg5' : w.heap.size ≤ g5 := by omega
  rw [HG0.out] at hB4
  clear hB2 hB3 hS1 hS2 hS3 hD3 hb1 hb2 hb3 hO4 hti hz hz' bld hg4 hg5 hlt2 hlt3 s1' s2'
  go_loopw [6] (fun i wr => ∃ k : Nat, k ≤ 4 ∧ i = .int .i64 (k : Int) ∧ B wr g5 33 (u64s (part4 (fun k => blkOf s0 s1 s2 s3 (ctr c k)) k 0)) ∧ B wr gs 30 (u64s [s0, s1, s2, s3]) ∧ B wr g4 33 Z32 ∧ Below w.heap.size w wr) (fun i _ => 4 - (intOf i).toNat)
  case atStart => exact ⟨0, Nat.zero_le _, rfl, hB4, hS4, hD4, b4⟩
  case round =>
    clear hB4 hS4 hD4 b4
    obtain ⟨k, hk, rfl, hB, hS, hD, hbel⟩ := hrel
    by_cases hk4 : k < 4
    · have hk' : (k : Int) < 4 := by omega
      have hcw := ctr_wrap c k hk4
      have hcm := ctr_mod c k hk4
      have hmx := fun w => sblock_any s0 s1 s2 s3 (ctr c k) w
      have hXl : (blkOf s0 s1 s2 s3 (ctr c k)).length = 16 := fin_length _
      have hstep : ∀ i, i < 16 → (part4 (fun k => blkOf s0 s1 s2 s3 (ctr c k)) k i).set (2 * i + k / 2) ((part4 (fun k => blkOf s0 s1 s2 s3 (ctr c k)) k i).getD (2 * i + k / 2) 0 ||| (((blkOf s0 s1 s2 s3 (ctr c k)).getD i 0).setWidth 64 <<< (32 * (k % 2)))) = part4 (fun k => blkOf s0 s1 s2 s3 (ctr c k)) k (i + 1) :=
        fun i hi => part4_step _ k i hk4 hi
      have hpl := fun i => part4_length (fun k => blkOf s0 s1 s2 s3 (ctr c k)) k i
      have hnx := part4_next (fun k => blkOf s0 s1 s2 s3 (ctr c k)) k
      obtain ⟨F, hF⟩ : ∃ F : Nat → List V, F = fun i => part4 (fun k => blkOf s0 s1 s2 s3 (ctr c k)) k i := ⟨_, rfl⟩
      have hB' : B wr g5 33 (u64s (F 0)) := by rw [hF]; exact hB
      have hst' : ∀ i, i < 16 → (F i).set (2 * i + k / 2) ((F i).getD (2 * i + k / 2) 0 ||| (((blkOf s0 s1 s2 s3 (ctr c k)).getD i 0).setWidth 64 <<< (32 * (k % 2)))) = F (i + 1) := by rw [hF]; exact hstep
      have hpl' : ∀ i, (F i).length = 32 := by rw [hF]; exact hpl
      have hnx' : F 16 = part4 (fun k => blkOf s0 s1 s2 s3 (ctr c k)) (k + 1) 0 := by rw [hF]; exact hnx
      clear hstep hpl hnx hF hB
      generalize blkOf s0 s1 s2 s3 (ctr c k) = X at hst' hmx hXl
      have HST := Lib.hid hst'
      have HPL := Lib.hid hpl'
      have HNX := Lib.hid hnx'
      have HXL := Lib.hid hXl
      have HXI := Lib.hid (info16 _ hXl)
      have hXo := w32s_one X
      clear hst' hpl' hnx' hXl
      go_wp2_with (first
        | (refine wpList_load_all rfl 30 _ rfl gs rfl hS h30 rfl (by kernel_rfl) ?_)
        | (go_at_call 53; refine (hmx _).mono ?_; rintro e w5 ⟨rfl, hb5⟩; have hB5 := hB'.call hb5; have hS5 := hS.call hb5; have hD5 := hD.call hb5; have e5 := below_call hbel hbel.size hb5)
        | (refine wpList_alloc rfl 79 rfl tj _ Z16 htj hy' rfl ?_; intro g7 w6 hg7 hlt6 hX6 hb6; (try go_frame); have hB6 := hB5.call hb6; have hS6 := hS5.call hb6; have hD6 := hD5.call hb6; have e6 := below_call e5 e5.size hb6)
        | (refine wpList_store_all rfl 79 _ _ rfl g7 rfl hX6 (w32s X) rfl (by rw [w32s_length, HXL.out, Z16_length]) hXo HXI.out ?_; intro w7 hX7 hO7; (try go_frame)))
      have n57 : g5 ≠ g7 := by have := hB5.lt; omega
      have ns7 : gs ≠ g7 := by have := hS5.lt; omega
      have n47 : g4 ≠ g7 := by have := hD5.lt; omega
      have hB7 := hB6.only hO7 n57
      have hS7 := hS6.only hO7 ns7
      have hD7 := hD6.only hO7 n47
      have e7 := e6.trans (hO7.below w.heap.size (by have := e5.size; omega))
      clear hB' hS hD hbel hB5 hS5 hD5 e5 hB6 hS6 hD6 e6 hX6 hb6 hO7 hb5 hlt6 hcw hcm hmx
      obtain ⟨q, hq⟩ : ∃ q, q = k / 2 := ⟨_, rfl⟩
      obtain ⟨r, hr⟩ : ∃ r, r = k % 2 := ⟨_, rfl⟩
      have hq2 : q < 2 := by omega
      have hq2' : (q : Int) < 2 := by omega
      have hr2 : r < 2 := by omega
      have hr2' : (r : Int) < 2 := by omega
      have w1 : IntKind.i64.wrap ((k : Int) / 2) = (q : Int) := by rw [IntKind.wrap_i64]; omega
      have w2 : (k : Int).tmod 2 = (r : Int) := by rw [Int.tmod_eq_emod_of_nonneg (by omega)]; omega
      have w3 : IntKind.i64.wrap (32 * (r : Int)) = 32 * (r : Int) := by rw [IntKind.wrap_i64]; omega
      have w4 : (0 : Int) ≤ 32 * (r : Int) := by omega
      have w5 : 32 * (r : Int) ≤ 64 := by omega
      have w6 : (32 * (r : Int)).toNat = 32 * r := by omega
      have hst2 := HST.out
      rw [← hq, ← hr] at hst2
      have HST := Lib.hid hst2
      have HQ := Lib.hid hq
      have HR := Lib.hid hr
      clear hst2 hq hr
      go_loopw [8] (fun i wr => ∃ j : Nat, j ≤ 16 ∧ i = .int .i64 (j : Int) ∧ B wr g5 33 (u64s (F j)) ∧ B wr g7 79 (w32s X) ∧ B wr gs 30 (u64s [s0, s1, s2, s3]) ∧ B wr g4 33 Z32 ∧ Below w.heap.size w wr) (fun i _ => 16 - (intOf i).toNat)
      case atStart => exact ⟨0, Nat.zero_le _, rfl, hB7, hX7, hS7, hD7, e7⟩
      case round =>
        clear hB7 hX7 hS7 hD7 e7
        obtain ⟨j, hj, rfl, hB, hX, hS, hD, hbel⟩ := hrel
        by_cases hj16 : j < 16
        · have hj' : (j : Int) < 16 := by omega
          have hrow := HST.out j hj16
          have v1 : IntKind.i64.wrap (2 * (j : Int)) = 2 * (j : Int) := by rw [IntKind.wrap_i64]; omega
          have v2 : IntKind.i64.wrap (2 * (j : Int) + (q : Int)) = 2 * (j : Int) + (q : Int) := by rw [IntKind.wrap_i64]; omega
          have v3 : (0 : Int) ≤ 2 * (j : Int) + (q : Int) := by omega
          have v4 : 2 * (j : Int) + (q : Int) < 32 := by omega
          have v5 : (2 * (j : Int) + (q : Int)).toNat = 2 * j + q := by omega
          have q1 : wr.cell? ⟨g7, j, none⟩ = some (.int .u32 (n32 (X.getD j 0))) := (hX.cell j).trans (w32s_get X j (by rw [HXL.out]; exact hj16))
          have q2 : wr.cell? ⟨g5, 2 * j + q, none⟩ = some (.int .u64 (n64 ((F j).getD (2 * j + q) 0))) := (hB.cell _).trans (u64s_get _ _ (by rw [HPL.out]; omega))
          have hl : 2 * j + q < (u64s (F j)).length := by rw [u64s_length, HPL.out]; omega
          generalize X.getD j 0 = x at q1 hrow
          generalize (F j).getD (2 * j + q) 0 = y at q2 hrow
          have HROW := Lib.hid hrow
          have HL := Lib.hid hl
          clear hrow hl
          go_wp2_with fail
          go_still_tail 21, (by kernel_rfl)
          change wpList _ _ _ _ _ wr.drew
          replace hB := hB.drew
          replace hX := hX.drew
          replace hS := hS.drew
          replace hD := hD.drew
          replace hbel : Below w.heap.size w wr.drew := below_drewN hbel 1
          clear q1 q2
          generalize wr.drew = v at hB hX hS hD hbel ⊢
          go_wp2_with (refine wpList_store_one rfl 29 _ _ rfl g5 (2 * j + q) rfl hB (.int .u64 (n64 (y ||| (x.setWidth 64 <<< (32 * r))))) rfl HL.out rfl (by kernel_rfl) ?_; intro w8 hB8 hO8; (try go_frame))
          go_roundw
          case rel => exact ⟨j + 1, by omega, by go_num, (by rw [← HROW.out, ← u64s_set]; exact hB8), hX.only hO8 n57.symm, hS.only hO8 ns5, hD.only hO8 n45, hbel.trans (hO8.below _ hg5')⟩
          case measure => simp [intOf]; omega
        · have hj' : (16 : Int) ≤ (j : Int) := by omega
          have hj16' : j = 16 := by omega
          have HJ := Lib.hid hj16'
          clear hj16'
          go_wp2_with fail
          go_roundw
          case rel => exact ⟨k + 1, by omega, by go_num, (by rw [← HNX.out, ← HJ.out]; exact hB), hS, hD, hbel⟩
          case measure => simp [intOf]; omega
    · have hk' : (4 : Int) ≤ (k : Int) := by omega
      have hk4' : k = 4 := by omega
      have HK := Lib.hid hk4'
      have hR : u64s (part4 (fun k => blkOf s0 s1 s2 s3 (ctr c k)) k 0) = u64s (blockL s0 s1 s2 s3 c) := by rw [hk4', HEND.out]
      clear hk4'
      rw [hR] at hB
      have HI := Lib.hid (info32 _ (blockL_length s0 s1 s2 s3 c))
      have HL := Lib.hid (show (u64s (blockL s0 s1 s2 s3 c)).length = Z32.length by rw [u64s_length, blockL_length, Z32_length])
      have ho6 := u64s_one (blockL s0 s1 s2 s3 c)
      clear hR
      generalize hgR : u64s (blockL s0 s1 s2 s3 c) = R at hB ho6 HI HL
      have HGR := Lib.hid hgR
      clear hgR
      go_wp2_with (first
        | (refine wpList_load_all rfl 33 _ rfl g5 rfl hB h33 rfl HI.out ?_)
        | (refine wpList_store_all rfl 33 _ _ rfl g4 rfl hD R rfl HL.out ho6 HI.out ?_; intro w8 hD8 hO8; (try go_frame)))
      exact bodyPost_ret (results_block rfl _ _ g4 33 _ _ rfl hD8 h33 rfl HI.out) rfl ⟨(by rw [HGR.out]), hbel.trans (hO8.below _ hg4')⟩
end Go.Proofs.Ytjhpffenlhfilaa.Ch
