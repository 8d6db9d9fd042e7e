/- The walks of the reference's matrix and Setup, and of the thin package's Setup. -/
import Derived.Test.YtjhpffenlhfilaaCha
import Derived.Deep.QuietTactic
namespace Go.Proofs.Ytjhpffenlhfilaa.Ch
open Go.RowKit Mem

attribute [local go_sem high] bo_shl64 bo_shr64 bo_or64 bo_shl64w bo_or64w bo_orw64 bo_add
attribute [local go_sem] n64_lo n64_wrap32 n64_wrapw n32_wrap_self

theorem zero51 : (Try.prog.info? 51).map (fun i => (i.zero, i.size)) = some (some (.agg (w32s (List.replicate 64 0)).toArray), 64) := by kernel_rfl
theorem size51 : (Try.prog.info? 51).map (·.size) = some 64 := by kernel_rfl
def Z64 : List Value := w32s (List.replicate 64 0)
theorem Z64_length : Z64.length = 64 := by simp [Z64, w32s]
theorem size79 : (Try.prog.info? 79).map (·.size) = some 16 := by kernel_rfl
theorem zero79 : (Try.prog.info? 79).map (fun i => (i.zero, i.size)) = some (some (.agg (w32s (List.replicate 16 0)).toArray), 16) := by kernel_rfl
def Z16 : List Value := w32s (List.replicate 16 0)
theorem Z16_length : Z16.length = 16 := by simp [Z16, w32s]

set_option maxRecDepth 100000 in
set_option maxHeartbeats 400000 in
theorem zzsetup_any (s0 s1 s2 s3 : V) (c : W) (w : World) :
    Calls Try.prog 50 #[.agg (u64s [s0, s1, s2, s3]).toArray, .int .u32 (n32 c)] w fun e w' =>
      e = .returned (.agg (w32s (setupL s0 s1 s2 s3 c)).toArray) ∧ Below w.heap.size w w' := by
  obtain ⟨ti, hti, hz, hsz⟩ := row_of zero51
  have hz' : ti.zero = some (.agg Z64.toArray) := hz
  have hlen := setupL_length s0 s1 s2 s3 c
  have hset := setup_any
  have hi : (Try.prog.info? 51).map (·.size) = some (w32s (setupL s0 s1 s2 s3 c)).length := by rw [size51, w32s_length, hlen]
  have h1 := w32s_one (setupL s0 s1 s2 s3 c)
  have h51 := Try.underlying51
  have HI := Lib.hid hi
  clear hi hlen hset
  go_enter Try.func50, Try.ntmps50
  go_wp2_with (first
    | (refine wpList_box rfl 30 _ rfl _ (u64s [s0, s1, s2, s3]) rfl rfl ?_; intro gs w1 hgs hlt1 hS1 hb1; (try go_frame))
    | (refine wpList_alloc rfl 51 rfl ti _ Z64 hti hz' rfl ?_; intro gb w2 hgb hlt2 hB2 hb2; (try go_frame)))
  have hS2 := hS1.call hb2
  refine (setup_any gs 0 gb s0 s1 s2 s3 c Z64 Z64_length w2 hS2.lt (hS2.cell 0) (hS2.cell 1) (hS2.cell 2) (hS2.cell 3) hB2).mono ?_
  rintro e w3 ⟨rfl, hB3, hp3⟩
  have s1' := hb1.size
  have B3 : Below w.heap.size w w3 := below_past (below_call hb1 s1' hb2) (by omega) (by have := hb2.size; omega) hp3
  have hB3' : B w3 gb 51 (w32s (setupL s0 s1 s2 s3 c)) := hB3
  clear hB3
  generalize hg : w32s (setupL s0 s1 s2 s3 c) = R at hB3' HI h1
  have HG := Lib.hid hg
  clear hg
  go_wp2_with (first
    | (refine wpList_load_all rfl 51 _ rfl gb rfl hB3' h51 rfl HI.out ?_)
    | (refine wpList_store_all rfl 51 _ _ rfl gb rfl hB3' R rfl rfl h1 HI.out ?_; intro w4 hB4 hO4; (try go_frame)))
  exact bodyPost_ret (results_block rfl _ _ gb 51 R _ rfl hB4 h51 rfl HI.out) rfl ⟨(by rw [HG.out]), B3.trans (hO4.below _ (by omega))⟩

set_option maxRecDepth 100000 in
set_option maxHeartbeats 400000 in
theorem implSetup_any (s0 s1 s2 s3 : V) (c : W) (w : World) :
    Calls Try.prog 30 #[.agg (u64s [s0, s1, s2, s3]).toArray, .int .u32 (n32 c)] w fun e w' =>
      e = .returned (.agg (w32s (setupL s0 s1 s2 s3 c)).toArray) ∧ Below w.heap.size w w' := by
  obtain ⟨ti, hti, hz, hsz⟩ := row_of zero51
  have hz' : ti.zero = some (.agg Z64.toArray) := hz
  have hlen := setupL_length s0 s1 s2 s3 c
  have hzz := fun w => zzsetup_any s0 s1 s2 s3 c w
  have hi : (Try.prog.info? 51).map (·.size) = some (w32s (setupL s0 s1 s2 s3 c)).length := by rw [size51, w32s_length, hlen]
  have hR : (w32s (setupL s0 s1 s2 s3 c)).length = Z64.length := by rw [w32s_length, hlen, Z64_length]
  have h1 := w32s_one (setupL s0 s1 s2 s3 c)
  have h51 := Try.underlying51
  have HI := Lib.hid hi
  have HR := Lib.hid hR
  clear hi hlen hR
  generalize w32s (setupL s0 s1 s2 s3 c) = R at HI h1 HR hzz ⊢
  go_enter Try.func30, Try.ntmps30
  go_wp2_with (first
    | (refine wpList_box rfl 30 _ rfl _ (u64s [s0, s1, s2, s3]) rfl rfl ?_; intro gs w1 hgs hlt1 hS1 hb1; (try go_frame))
    | (refine wpList_alloc rfl 51 rfl ti _ Z64 hti hz' rfl ?_; intro gb w2 hgb hlt2 hB2 hb2; (try go_frame); have hS2 := hS1.call hb2)
    | (refine wpList_load_all rfl 30 _ rfl gs rfl hS2 Try.underlying30 rfl (by kernel_rfl) ?_)
    | (go_at_call 50; refine (hzz _).mono ?_; rintro e w3 ⟨rfl, hb3⟩; have hB3 := hB2.call hb3)
    | (refine wpList_store_all rfl 51 _ _ rfl gb rfl hB3 R rfl HR.out h1 HI.out ?_; intro w4 hB4 hO4; (try go_frame)))
  have s1' := hb1.size
  have B3 : Below w.heap.size w w3 := below_call (below_call hb1 s1' hb2) (by have := hb2.size; omega) hb3
  exact bodyPost_ret (results_block rfl _ _ gb 51 R _ rfl hB4 h51 rfl HI.out) rfl ⟨rfl, B3.trans (hO4.below _ (by omega))⟩

/-- The matrix filled down to word p behind the constants. -/
def mp (S : List V) (p : Nat) : List W := (List.range 16).map fun j => if j < 4 then (mat 0 0 0 0 0).getD j 0 else if j < 4 + p then (split S).getD (j - 4) 0 else 0
theorem mp_length (S : List V) (p : Nat) : (mp S p).length = 16 := by simp [mp]
theorem mp_get (S : List V) (p j : Nat) (hj : j < 16) : (mp S p).getD j 0 = if j < 4 then (mat 0 0 0 0 0).getD j 0 else if j < 4 + p then (split S).getD (j - 4) 0 else 0 := by
  unfold mp
  rw [List.getD_eq_getElem?_getD, List.getElem?_map, List.getElem?_range hj]
  rfl
theorem mp_step (S : List V) (p : Nat) (hp : p < 8) : (mp S p).set (4 + p) ((split S).getD p 0) = mp S (p + 1) := by
  refine list_ext_getD 16 (by rw [List.length_set, mp_length]) (mp_length _ _) fun j hj => ?_
  rw [mp_get _ _ _ hj, List.getD_eq_getElem?_getD, List.getElem?_set, mp_length]
  by_cases h : 4 + p = j
  · rw [if_pos h, if_pos (by omega), if_neg (by omega), if_pos (by omega), show j - 4 = p by omega]
    rfl
  · rw [if_neg h, ← List.getD_eq_getElem?_getD, mp_get _ _ _ hj]
    by_cases h1 : j < 4
    · rw [if_pos h1, if_pos h1]
    · rw [if_neg h1, if_neg h1]
      by_cases h2 : j < 4 + p
      · rw [if_pos h2, if_pos (by omega)]
      · rw [if_neg h2, if_neg (by omega)]
theorem mp_end (s0 s1 s2 s3 : V) (c : W) : (mp [s0, s1, s2, s3] 8).set 12 c = mat s0 s1 s2 s3 c := rfl
theorem split_get (S : List V) (i : Nat) (hi : i < S.length) : (split S).getD (2 * i) 0 = lo (S.getD i 0) ∧ (split S).getD (2 * i + 1) 0 = Ch.hi (S.getD i 0) := by
  induction S generalizing i with
  | nil => simp at hi
  | cons x S ih =>
    match i with
    | 0 => exact ⟨rfl, rfl⟩
    | i + 1 =>
      have h := ih i (by simpa using hi)
      exact h

theorem mp_zero (S : List V) : mp S 0 = mp [] 0 := list_ext_getD 16 (mp_length _ _) (mp_length _ _) fun j hj => by
  rw [mp_get _ _ _ hj, mp_get _ _ _ hj]
  by_cases h : j < 4
  · rw [if_pos h, if_pos h]
  · rw [if_neg h, if_neg h, if_neg (by omega), if_neg (by omega)]
theorem zv79 (w : World) : (zeroValue 79).run Try.prog w = .ok (.agg #[.int .u32 0, .int .u32 0, .int .u32 0, .int .u32 0, .int .u32 0, .int .u32 0, .int .u32 0, .int .u32 0, .int .u32 0, .int .u32 0, .int .u32 0, .int .u32 0, .int .u32 0, .int .u32 0, .int .u32 0, .int .u32 0]) w := by kernel_rfl

set_option maxRecDepth 100000 in
set_option maxHeartbeats 1000000 in
theorem matrix_any (s0 s1 s2 s3 : V) (c : W) (w : World) :
    Calls Try.prog 51 #[.agg (u64s [s0, s1, s2, s3]).toArray, .int .u32 (n32 c)] w fun e w' =>
      e = .returned (.agg (w32s (mat s0 s1 s2 s3 c)).toArray) ∧ Below w.heap.size w w' := by
  obtain ⟨ti, hti, hz, hsz⟩ := row_of zero79
  have hz' : ti.zero = some (.agg Z16.toArray) := hz
  have h79 := Try.underlying79
  have hzv := zv79
  go_enter Try.func51, Try.ntmps51
  go_wp2_with (first
    | (refine wpList_box rfl 30 _ rfl _ (u64s [s0, s1, s2, s3]) rfl rfl ?_; intro gs w1 hgs hlt1 hS1 hb1; (try go_frame); have hS10 := hS1)
    | (refine wpList_alloc rfl 79 rfl ti _ Z16 hti hz' rfl ?_; intro g4 w2 hg4 hlt2 hB2 hb2; (try go_frame); have hS2 := hS10.call hb2; clear hS10)
    | (refine wpList_alloc rfl 79 rfl ti _ Z16 hti hz' rfl ?_; intro g5 w3 hg5 hlt3 hB3 hb3; (try go_frame); have hS3 := hS2.call hb3; have hD3 := hB2.call hb3)
    | (refine wpList_store_all rfl 79 _ _ rfl g5 rfl hB3 (w32s (mp [] 0)) rfl (by rw [w32s_length, mp_length, Z16_length]) (w32s_one _) (by rw [size79, w32s_length, mp_length]) ?_; intro w4 hB4 hO4; (try go_frame)))
  have s1' := hb1.size
  have s2' := hb2.size
  have b4 : Below w.heap.size w w4 := (below_call (below_call hb1 s1' hb2) (by omega) hb3).trans (hO4.below _ (by omega))
  have n45 : g4 ≠ g5 := by omega
  have ns5 : gs ≠ g5 := by omega
  have n4s : g4 ≠ gs := by omega
  have hS4 := hS3.only hO4 ns5
  have hD4 := hD3.only hO4 n45
  rw [← mp_zero [s0, s1, s2, s3]] at hB4
  have hend := mp_end s0 s1 s2 s3 c
  have HEND := Lib.hid hend
  have hsg := split_get [s0, s1, s2, s3]
  generalize hSg : [s0, s1, s2, s3] = S at hB4 hS4 HEND hsg
  have hSl : S.length = 4 := by rw [← hSg]; rfl
  clear hB2 hB3 hS1 hS2 hS3 hD3 hb1 hb2 hb3 hO4 hend hSg hti hz hz'
  go_loopw [6] (fun i wr => ∃ k : Nat, k ≤ 4 ∧ i = .int .i64 (k : Int) ∧ B wr g5 79 (w32s (mp S (2 * k))) ∧ B wr gs 30 (u64s S) ∧ B wr g4 79 Z16 ∧ Below w.heap.size w wr) (fun i _ => 4 - (intOf i).toNat)
  case atStart => exact ⟨0, Nat.zero_le _, rfl, hB4, hS4, hD4, b4⟩
  case round =>
    clear hB4 hS4 hD4 b4
    obtain ⟨k, hk, rfl, hB, hS, hD, hbel⟩ := hrel
    by_cases hk4 : k < 4
    · have hk' : (k : Int) < 4 := by omega
      obtain ⟨hlo, hhi⟩ := hsg k (by omega)
      have q : wr.cell? ⟨gs, k, none⟩ = some (.int .u64 (n64 (S.getD k 0))) := (hS.cell k).trans (u64s_get S k (by omega))
      have st1 := mp_step S (2 * k) (by omega)
      have st2 := mp_step S (2 * k + 1) (by omega)
      rw [hlo] at st1
      rw [hhi, show 4 + (2 * k + 1) = 5 + 2 * k by omega] at st2
      have ST1 := Lib.hid st1
      have ST2 := Lib.hid st2
      clear hlo hhi st1 st2
      generalize S.getD k 0 = x at q ST1 ST2
      go_wp2_with (first
        | (refine wpList_store_one rfl 22 _ _ rfl g5 (4 + 2 * k) rfl hB (.int .u32 (n32 (lo x))) rfl (by rw [w32s_length, mp_length]; omega) rfl (by kernel_rfl) ?_; intro w5 hB5 hO5; (try go_frame); have hS5 := hS.only hO5 ns5; have hD5 := hD.only hO5 n45; have q5 : w5.cell? ⟨gs, k, none⟩ = some (.int .u64 (n64 x)) := ((World.cell?_of_block (hO5.block gs ns5)).trans q); have hB6 : B w5 g5 79 (w32s (mp S (2 * k + 1))) := (by rw [← ST1.out, ← w32s_set]; exact hB5))
        | (refine wpList_store_one rfl 22 _ _ rfl g5 (5 + 2 * k) rfl hB6 (.int .u32 (n32 (Ch.hi x))) rfl (by rw [w32s_length, mp_length]; omega) rfl (by kernel_rfl) ?_; intro w7 hB7 hO7; (try go_frame); have hS7 := hS5.only hO7 ns5; have hD7 := hD5.only hO7 n45))
      go_roundw
      case rel => exact ⟨k + 1, by omega, by go_num, (by rw [show 2 * (k + 1) = 2 * k + 1 + 1 by omega, ← ST2.out, ← w32s_set]; exact hB7), hS7, hD7, (hbel.trans (hO5.below _ (by omega))).trans (hO7.below _ (by omega))⟩
      case measure => simp [intOf]; omega
    · have hk' : (4 : Int) ≤ (k : Int) := by omega
      have hk4' : k = 4 := by omega
      have HK := Lib.hid hk4'
      clear hk4'
      have hl5 : (w32s (mp S (2 * k))).length = 16 := by rw [w32s_length, mp_length]
      have HL5 := Lib.hid hl5
      clear hl5
      have hi6 : (Try.prog.info? 79).map (·.size) = some (w32s (mat s0 s1 s2 s3 c)).length := by rw [size79, w32s_length, mat_length]
      go_wp2_with (first
        | (refine wpList_store_one rfl 22 _ _ rfl g5 12 rfl hB (.int .u32 (n32 c)) rfl (by rw [HL5.out]; omega) rfl (by kernel_rfl) ?_; intro w5 hB5 hO5; (try go_frame); have hB6 : B w5 g5 79 (w32s (mat s0 s1 s2 s3 c)) := (by rw [← HEND.out, ← w32s_set]; rw [HK.out] at hB5; exact hB5); have hD5 := hD.only hO5 n45)
        | (refine wpList_load_all rfl 79 _ rfl g5 rfl hB6 h79 rfl hi6 ?_)
        | (refine wpList_store_all rfl 79 _ _ rfl g4 rfl hD5 (w32s (mat s0 s1 s2 s3 c)) rfl (by rw [w32s_length, mat_length, Z16_length]) (w32s_one _) hi6 ?_; intro w8 hD8 hO8; (try go_frame)))
      exact bodyPost_ret (results_block rfl _ _ g4 79 _ _ rfl hD8 h79 rfl hi6) rfl ⟨rfl, (hbel.trans (hO5.below _ (by omega))).trans (hO8.below _ (by omega))⟩
end Go.Proofs.Ytjhpffenlhfilaa.Ch
