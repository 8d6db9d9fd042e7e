/- The walk of the reference's Setup. -/
import Derived.Test.YtjhpffenlhfilaaWMatrix
namespace Go.Proofs.Ytjhpffenlhfilaa.Ch
open Go.RowKit Mem

attribute [local go_sem high] bo_shl64 bo_shr64 bo_or64 bo_shl64w bo_or64w bo_orw64 bo_add
attribute [local go_sem] n64_lo n64_wrap32 n64_wrapw n32_wrap_self

/-- The first k columns filled with what f tells, zeros behind them. -/
def gcols (f : Nat → List W) (k : Nat) : List W := (List.range 64).map fun i => if i % 4 < k then (f (i % 4)).getD (i / 4) 0 else 0
theorem gcols_length (f : Nat → List W) (k : Nat) : (gcols f k).length = 64 := by simp [gcols]
theorem gcols_get (f : Nat → List W) (k i : Nat) (hi : i < 64) : (gcols f k).getD i 0 = if i % 4 < k then (f (i % 4)).getD (i / 4) 0 else 0 := by
  unfold gcols
  rw [List.getD_eq_getElem?_getD, List.getElem?_map, List.getElem?_range hi]
  rfl
theorem gcols_zero (f : Nat → List W) : gcols f 0 = List.replicate 64 0 :=
  list_ext_getD 64 (gcols_length _ _) (by simp) fun i hi => by
    rw [gcols_get _ _ _ hi, if_neg (by omega), List.getD_eq_getElem?_getD, List.getElem?_replicate, if_pos hi]
    rfl
theorem gcols_step (f : Nat → List W) (k : Nat) : upd (gcols f k) (f k) k 16 = gcols f (k + 1) := by
  refine list_ext_getD 64 (upd_length _ _ _ _) (gcols_length _ _) fun i hi => ?_
  rw [upd_get _ _ _ _ _ hi, gcols_get _ _ _ hi, gcols_get _ _ _ hi]
  by_cases h : i % 4 = k
  · rw [if_pos ⟨h, by omega⟩, if_pos (by omega), h]
  · rw [if_neg (by omega)]
    by_cases h2 : i % 4 < k
    · rw [if_pos h2, if_pos (by omega)]
    · rw [if_neg h2, if_neg (by omega)]
theorem gcols_end (s0 s1 s2 s3 : V) (c : W) : gcols (fun k => mat s0 s1 s2 s3 (ctr c k)) 4 = setupL s0 s1 s2 s3 c :=
  list_ext_getD 64 (gcols_length _ _) (setupL_length _ _ _ _ _) fun i hi => by
    rw [gcols_get _ _ _ hi, setupL_get _ _ _ _ _ _ hi, if_pos (by omega)]

theorem ctr_wrap (c : W) (k : Nat) (hk : k < 4) : IntKind.u32.wrap (n32 c + (k : Int)) = n32 (ctr c k) := by
  rw [ctr_eq c k hk, ← n32_wrap_add]
  congr 2
  unfold n32
  rw [BitVec.toNat_ofNat]
  omega
theorem ctr_mod (c : W) (k : Nat) (hk : k < 4) : (n32 c + (k : Int)) % 4294967296 = n32 (ctr c k) := by rw [← ctr_wrap c k hk, IntKind.wrap_u32]

theorem build51 (w : World) : (Instr.build 51 #[]).run Try.prog w = .ok (.agg Z64.toArray) w := by kernel_rfl

set_option maxRecDepth 100000 in
set_option maxHeartbeats 2000000 in
theorem setSpec_any (s0 s1 s2 s3 : V) (c : W) (w : World) :
    Calls Try.prog 31 #[.agg (u64s [s0, s1, s2, s3]).toArray, .int .u32 (n32 c)] w fun e w' =>
      e = .returned (.agg (w32s (setupL s0 s1 s2 s3 c)).toArray) ∧ Below w.heap.size w w' := by
  obtain ⟨ti, hti, hz, hsz⟩ := row_of zero51
  have hz' : ti.zero = some (.agg Z64.toArray) := hz
  obtain ⟨tj, htj, hy, _⟩ := row_of zero79
  have hy' : tj.zero = some (.agg Z16.toArray) := hy
  have h51 := Try.underlying51
  have h30 := Try.underlying30
  have bld := build51
  have hiz : (Try.prog.info? 51).map (·.size) = some Z64.length := by rw [size51, Z64_length]
  have hoz : ∀ v ∈ Z64, v.oneCell' = true := w32s_one _
  have hend := gcols_end s0 s1 s2 s3 c
  have HEND := Lib.hid hend
  have hg0 : Z64 = w32s (gcols (fun k => mat s0 s1 s2 s3 (ctr c k)) 0) := by rw [gcols_zero]; rfl
  have HG0 := Lib.hid hg0
  clear hend hg0
  go_enter Try.func31, Try.ntmps31
  go_wp2_with (first
    | (refine wpList_box rfl 30 _ rfl _ (u64s [s0, s1, s2, s3]) rfl rfl ?_; intro gs w1 hgs hlt1 hS1 hb1; (try go_frame); have hS10 := hS1)
    | (refine wpList_alloc rfl 51 rfl ti _ Z64 hti hz' rfl ?_; intro g4 w2 hg4 hlt2 hB2 hb2; (try go_frame); have hS2 := hS10.call hb2; clear hS10)
    | (refine wpList_build0 rfl 51 rfl _ bld ?_; (try go_frame))
    | (refine wpList_alloc rfl 51 rfl ti _ Z64 hti hz' rfl ?_; intro g5 w3 hg5 hlt3 hB3 hb3; (try go_frame); have hS3 := hS2.call hb3; have hD3 := hB2.call hb3)
    | (refine wpList_store_all rfl 51 _ _ rfl g5 rfl hB3 Z64 rfl rfl hoz hiz ?_; intro w4 hB4 hO4; (try go_frame)))
  have s1' := hb1.size
  have s2' := hb2.size
  have b4 : Below w.heap.size w w4 := (below_call (below_call hb1 s1' hb2) (by omega) hb3).trans (hO4.below _ (by omega))
  have n45 : g4 ≠ g5 := by omega
  have ns5 : gs ≠ g5 := by omega
  have hS4 := hS3.only hO4 ns5
  have hD4 := hD3.only hO4 n45
  have hg4' : w.heap.size ≤ g4 := by omega
  have hg5' : w.heap.size ≤ g5 := by omega
  rw [HG0.out] at hB4
  clear hB2 hB3 hS1 hS2 hS3 hD3 hb1 hb2 hb3 hO4 hti hz hz' bld hg4 hg5 hlt2 hlt3 s1' s2'
  go_loopw [6] (fun i wr => ∃ k : Nat, k ≤ 4 ∧ i = .int .i64 (k : Int) ∧ B wr g5 51 (w32s (gcols (fun k => mat s0 s1 s2 s3 (ctr c k)) k)) ∧ B wr gs 30 (u64s [s0, s1, s2, s3]) ∧ B wr g4 51 Z64 ∧ Below w.heap.size w wr) (fun i _ => 4 - (intOf i).toNat)
  case atStart => exact ⟨0, Nat.zero_le _, rfl, hB4, hS4, hD4, b4⟩
  case round =>
    clear hB4 hS4 hD4 b4
    obtain ⟨k, hk, rfl, hB, hS, hD, hbel⟩ := hrel
    by_cases hk4 : k < 4
    · have hk' : (k : Int) < 4 := by omega
      have hcw := ctr_wrap c k hk4
      have hcm := ctr_mod c k hk4
      have hstep := gcols_step (fun k => mat s0 s1 s2 s3 (ctr c k)) k
      have hmx := fun w => matrix_any s0 s1 s2 s3 (ctr c k) w
      have hCl := gcols_length (fun k => mat s0 s1 s2 s3 (ctr c k)) k
      have hXl := mat_length s0 s1 s2 s3 (ctr c k)
      have HST := Lib.hid hstep
      have HXL := Lib.hid hXl
      clear hstep hXl
      have hst : upd (gcols (fun k => mat s0 s1 s2 s3 (ctr c k)) k) (mat s0 s1 s2 s3 (ctr c k)) k 16 = gcols (fun k => mat s0 s1 s2 s3 (ctr c k)) (k + 1) := HST.out
      generalize gcols (fun k => mat s0 s1 s2 s3 (ctr c k)) k = C at hB hst hCl
      generalize mat s0 s1 s2 s3 (ctr c k) = X at hst hmx HXL
      have HST := Lib.hid hst
      clear hst
      have hXi : (Try.prog.info? 79).map (·.size) = some (w32s X).length := by rw [size79, w32s_length, HXL.out]
      have HXI := Lib.hid hXi
      have hXo := w32s_one X
      rw [← upd_zero C X k hCl] at hB
      clear hXi
      go_wp2_with (first
        | (refine wpList_load_all rfl 30 _ rfl gs rfl hS h30 rfl (by kernel_rfl) ?_)
        | (go_at_call 51; refine (hmx _).mono ?_; rintro e w5 ⟨rfl, hb5⟩; have hB5 := hB.call hb5; have hS5 := hS.call hb5; have hD5 := hD.call hb5; have e5 := below_call hbel hbel.size hb5)
        | (refine wpList_alloc rfl 79 rfl tj _ Z16 htj hy' rfl ?_; intro g7 w6 hg7 hlt6 hX6 hb6; (try go_frame); have hB6 := hB5.call hb6; have hS6 := hS5.call hb6; have hD6 := hD5.call hb6; have e6 := below_call e5 e5.size hb6)
        | (refine wpList_store_all rfl 79 _ _ rfl g7 rfl hX6 (w32s X) rfl (by rw [w32s_length, HXL.out, Z16_length]) hXo HXI.out ?_; intro w7 hX7 hO7; (try go_frame)))
      have n57 : g5 ≠ g7 := by have := hB5.lt; omega
      have ns7 : gs ≠ g7 := by have := hS5.lt; omega
      have n47 : g4 ≠ g7 := by have := hD5.lt; omega
      have hB7 := hB6.only hO7 n57
      have hS7 := hS6.only hO7 ns7
      have hD7 := hD6.only hO7 n47
      have e7 := e6.trans (hO7.below w.heap.size (by have := e5.size; omega))
      clear hB hS hD hbel hB5 hS5 hD5 e5 hB6 hS6 hD6 e6 hX6 hb6 hO7 hb5 hlt6 hcw hcm hmx
      go_loopw [8] (fun i wr => ∃ j : Nat, j ≤ 16 ∧ i = .int .i64 (j : Int) ∧ B wr g5 51 (w32s (upd C X k j)) ∧ B wr g7 79 (w32s X) ∧ B wr gs 30 (u64s [s0, s1, s2, s3]) ∧ B wr g4 51 Z64 ∧ Below w.heap.size w wr) (fun i _ => 16 - (intOf i).toNat)
      case atStart => exact ⟨0, Nat.zero_le _, rfl, hB7, hX7, hS7, hD7, e7⟩
      case round =>
        clear hB7 hX7 hS7 hD7 e7
        obtain ⟨j, hj, rfl, hB, hX, hS, hD, hbel⟩ := hrel
        by_cases hj16 : j < 16
        · have hj' : (j : Int) < 16 := by omega
          have hrow := upd_row C X k j hk4 hj16
          have HROW := Lib.hid hrow
          clear hrow
          have q : wr.cell? ⟨g7, j, none⟩ = some (.int .u32 (n32 (X.getD j 0))) := (hX.cell j).trans (w32s_get X j (by rw [HXL.out]; exact hj16))
          generalize X.getD j 0 = x at q HROW
          go_wp2_with fail
          go_still_tail 7, (by kernel_rfl)
          change wpList _ _ _ _ _ wr.drew
          replace hB := hB.drew
          replace hX := hX.drew
          replace hS := hS.drew
          replace hD := hD.drew
          replace hbel : Below w.heap.size w wr.drew := below_drewN hbel 1
          clear q
          generalize wr.drew = v at hB hX hS hD hbel ⊢
          go_wp2_with (refine wpList_store_one rfl 22 _ _ rfl g5 (j * 4 + k) rfl hB (.int .u32 (n32 x)) rfl (by rw [w32s_length, upd_length]; omega) rfl (by kernel_rfl) ?_; intro w8 hB8 hO8; (try go_frame))
          go_roundw
          case rel => exact ⟨j + 1, by omega, by go_num, (by rw [← HROW.out, Nat.mul_comm 4 j]; exact hB8), hX.only hO8 n57.symm, hS.only hO8 ns5, hD.only hO8 n45, hbel.trans (hO8.below _ hg5')⟩
          case measure => simp [intOf]; omega
        · have hj' : (16 : Int) ≤ (j : Int) := by omega
          have hj16' : j = 16 := by omega
          have HJ := Lib.hid hj16'
          clear hj16'
          go_wp2_with fail
          go_roundw
          case rel => exact ⟨k + 1, by omega, by go_num, (by rw [← HST.out, ← HJ.out]; exact hB), hS, hD, hbel⟩
          case measure => simp [intOf]; omega
    · have hk' : (4 : Int) ≤ (k : Int) := by omega
      have hk4' : k = 4 := by omega
      have HK := Lib.hid hk4'
      clear hk4'
      have hR : w32s (gcols (fun k => mat s0 s1 s2 s3 (ctr c k)) k) = w32s (setupL s0 s1 s2 s3 c) := by rw [HK.out, HEND.out]
      rw [hR] at hB
      have hi6 : (Try.prog.info? 51).map (·.size) = some (w32s (setupL s0 s1 s2 s3 c)).length := by rw [size51, w32s_length, setupL_length]
      have hl6 : (w32s (setupL s0 s1 s2 s3 c)).length = Z64.length := by rw [w32s_length, setupL_length, Z64_length]
      have ho6 := w32s_one (setupL s0 s1 s2 s3 c)
      have HI := Lib.hid hi6
      have HL := Lib.hid hl6
      clear hi6 hl6 hR
      generalize hgR : w32s (setupL s0 s1 s2 s3 c) = R at hB ho6 HI HL
      have HGR := Lib.hid hgR
      clear hgR
      go_wp2_with (first
        | (refine wpList_load_all rfl 51 _ rfl g5 rfl hB h51 rfl HI.out ?_)
        | (refine wpList_store_all rfl 51 _ _ rfl g4 rfl hD R rfl HL.out ho6 HI.out ?_; intro w8 hD8 hO8; (try go_frame)))
      exact bodyPost_ret (results_block rfl _ _ g4 51 _ _ rfl hD8 h51 rfl HI.out) rfl ⟨(by rw [HGR.out]), hbel.trans (hO8.below _ hg4')⟩
end Go.Proofs.Ytjhpffenlhfilaa.Ch
