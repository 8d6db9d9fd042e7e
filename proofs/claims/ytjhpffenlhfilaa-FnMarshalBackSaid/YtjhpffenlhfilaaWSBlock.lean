/- The walk of the reference's block. -/
import Derived.Test.YtjhpffenlhfilaaWDouble
namespace Go.Proofs.Ytjhpffenlhfilaa.Ch
open Go.RowKit Mem

attribute [local go_sem high] bo_add

/-- The middle added up to place p. -/
def amid (x first : List W) (p : Nat) : List W := (List.range 16).map fun i => if 4 ≤ i ∧ i < p then first.getD i 0 + x.getD i 0 else x.getD i 0
theorem amid_length (x first : List W) (p : Nat) : (amid x first p).length = 16 := by simp [amid]
theorem amid_get (x first : List W) (p i : Nat) (hi : i < 16) : (amid x first p).getD i 0 = if 4 ≤ i ∧ i < p then first.getD i 0 + x.getD i 0 else x.getD i 0 := by
  unfold amid
  rw [List.getD_eq_getElem?_getD, List.getElem?_map, List.getElem?_range hi]
  rfl
theorem amid_four (x first : List W) (hx : x.length = 16) : amid x first 4 = x := list_ext_getD 16 (amid_length _ _ _) hx fun i hi => by
  rw [amid_get _ _ _ _ hi, if_neg (by omega)]
theorem amid_end (x first : List W) : amid x first 12 = addMid x first := rfl
theorem amid_here (x first : List W) (p : Nat) (hp : p < 16) : (amid x first p).getD p 0 = x.getD p 0 := by rw [amid_get _ _ _ _ hp, if_neg (by omega)]
theorem amid_step (x first : List W) (p : Nat) (h4 : 4 ≤ p) (hp : p < 16) : (amid x first p).set p (x.getD p 0 + first.getD p 0) = amid x first (p + 1) := by
  refine list_ext_getD 16 (by rw [List.length_set, amid_length]) (amid_length _ _ _) fun i hi => ?_
  rw [amid_get _ _ _ _ hi, List.getD_eq_getElem?_getD, List.getElem?_set, amid_length]
  by_cases h : p = i
  · subst h
    rw [if_pos rfl, if_pos hp, if_pos ⟨h4, by omega⟩, BitVec.add_comm]
    rfl
  · rw [if_neg h, ← List.getD_eq_getElem?_getD, amid_get _ _ _ _ hi]
    by_cases h1 : 4 ≤ i ∧ i < p
    · rw [if_pos h1, if_pos (by omega)]
    · rw [if_neg h1, if_neg (by omega)]

set_option maxRecDepth 100000 in
set_option maxHeartbeats 2000000 in
theorem sblock_any (s0 s1 s2 s3 : V) (c : W) (w : World) :
    Calls Try.prog 53 #[.agg (u64s [s0, s1, s2, s3]).toArray, .int .u32 (n32 c)] w fun e w' =>
      e = .returned (.agg (w32s (blkOf s0 s1 s2 s3 c)).toArray) ∧ Below w.heap.size w w' := by
  obtain ⟨ti, hti, hz, hsz⟩ := row_of zero79
  have hz' : ti.zero = some (.agg Z16.toArray) := hz
  have h79 := Try.underlying79
  have h30 := Try.underlying30
  have cM := fun w => matrix_any s0 s1 s2 s3 c w
  have hres : fin (mat s0 s1 s2 s3 c) = blkOf s0 s1 s2 s3 c := rfl
  have hMl := mat_length s0 s1 s2 s3 c
  have HRES := Lib.hid hres
  have HML := Lib.hid hMl
  have hML' : (mat s0 s1 s2 s3 c).length = 16 := hMl
  clear hres hMl
  generalize mat s0 s1 s2 s3 c = M at cM HRES HML hML'
  have IM := Lib.hid (info16 _ hML')
  have LM := Lib.hid (show (w32s M).length = Z16.length by rw [w32s_length, hML', Z16_length])
  have oM := w32s_one M
  clear hML'
  go_enter Try.func53, Try.ntmps53
  go_wp2_with (first
    | (refine wpList_box rfl 30 _ rfl _ (u64s [s0, s1, s2, s3]) rfl rfl ?_; intro gs w1 hgs hlt1 hS1 hb1; (try go_frame); have hS10 := hS1)
    | (refine wpList_alloc rfl 79 rfl ti _ Z16 hti hz' rfl ?_; intro gr w2 hgr hlt2 hR2 hb2; (try go_frame); have hS2 := hS10.call hb2; have b2 : Below w.heap.size w w2 := (below_call hb1 hb1.size hb2); clear hS10)
    | (refine wpList_load_all rfl 30 _ rfl gs rfl hS2 h30 rfl (by kernel_rfl) ?_)
    | (go_at_call 51; refine (cM _).mono ?_; rintro e w3 ⟨rfl, hb3⟩; have hR3 := hR2.call hb3; have b3 := below_call b2 b2.size hb3)
    | (refine wpList_alloc rfl 79 rfl ti _ Z16 hti hz' rfl ?_; intro gf w4 hgf hlt4 hF4 hb4; (try go_frame); have hR4 := hR3.call hb4; have b4 := below_call b3 b3.size hb4; have hF40 := hF4; have nrf : gr ≠ gf := (by have := hR3.lt; omega); clear hR3)
    | (refine wpList_store_all rfl 79 _ _ rfl gf rfl hF40 (w32s M) rfl LM.out oM IM.out ?_; intro w5 hF5 hO5; (try go_frame); have hR5 := hR4.only hO5 nrf; have b5 := b4.trans (hO5.below w.heap.size (by have := b3.size; omega)); clear hF40)
    | (refine wpList_load_all rfl 79 _ rfl gf rfl hF5 h79 rfl IM.out ?_)
    | (refine wpList_alloc rfl 79 rfl ti _ Z16 hti hz' rfl ?_; intro gx w6 hgx hlt6 hX6 hb6; (try go_frame); have hR6 := hR5.call hb6; have hF6 := hF5.call hb6; have b6 := below_call b5 b5.size hb6; have nrx : gr ≠ gx := (by have := hR5.lt; omega); have nfx : gf ≠ gx := (by have := hF5.lt; omega); have lgx : w.heap.size ≤ gx := (by have := b5.size; omega); clear hR5)
    | (refine wpList_store_all rfl 79 _ _ rfl gx rfl hX6 (w32s M) rfl LM.out oM IM.out ?_; intro w7 hX7 hO7; (try go_frame); have hR7 := hR6.only hO7 nrx; have hF7 := hF6.only hO7 nfx; have b7 := b6.trans (hO7.below _ lgx)))
  have lgr : w.heap.size ≤ gr := by have := hb1.size; omega
  have hX7' : B w7 gx 79 (w32s (rounds 0 M)) := hX7
  clear hX7 hS1 hS2 hR2 hR4 hR6 hF4 hF5 hF6 hX6 hb1 hb2 hb3 hb4 hb6 hO5 hO7 b2 b3 b4 b5 b6 cM hti hz hz' hgs hlt1 hgr hlt2 hgf hlt4 hgx hlt6
  go_loopw [7] (fun i wr => ∃ k : Nat, k ≤ 4 ∧ i = .int .i64 (k : Int) ∧ B wr gx 79 (w32s (rounds k M)) ∧ B wr gf 79 (w32s M) ∧ B wr gr 79 Z16 ∧ Below w.heap.size w wr) (fun i _ => 4 - (intOf i).toNat)
  case atStart => exact ⟨0, Nat.zero_le _, rfl, hX7', hF7, hR7, b7⟩
  case round =>
    clear hX7' hF7 hR7 b7
    obtain ⟨k, hk, rfl, hX, hF, hR, hbel⟩ := hrel
    by_cases hk4 : k < 4
    · have hk' : (k : Int) < 4 := by omega
      have hCl : (rounds k M).length = 16 := by rw [rounds_length, HML.out]
      have hDl : (rounds (k + 1) M).length = 16 := by rw [rounds_length, HML.out]
      have cD : ∀ w, Calls Try.prog 69 #[.agg (w32s (rounds k M)).toArray] w fun e w' =>
          e = .returned (.agg (w32s (rounds (k + 1) M)).toArray) ∧ Below w.heap.size w w' := fun w => double_any (rounds k M) hCl w
      have IC := Lib.hid (info16 _ hCl)
      have ID := Lib.hid (info16 _ hDl)
      have oD := w32s_one (rounds (k + 1) M)
      have LCD := Lib.hid (show (w32s (rounds (k + 1) M)).length = (w32s (rounds k M)).length by rw [w32s_length, w32s_length, hCl, hDl])
      clear hCl hDl
      go_wp2_with (first
        | (refine wpList_load_all rfl 79 _ rfl gx rfl hX h79 rfl IC.out ?_)
        | (go_at_call 69; refine (cD _).mono ?_; rintro e w5 ⟨rfl, hb5⟩; have hX5 := hX.call hb5; have hF5 := hF.call hb5; have hR5 := hR.call hb5; have e5 := below_call hbel hbel.size hb5)
        | (refine wpList_store_all rfl 79 _ _ rfl gx rfl hX5 (w32s (rounds (k + 1) M)) rfl LCD.out oD ID.out ?_; intro w6 hX6 hO6; (try go_frame)))
      go_roundw
      case rel => exact ⟨k + 1, by omega, by go_num, hX6, hF5.only hO6 nfx, hR5.only hO6 nrx, e5.trans (hO6.below _ lgx)⟩
      case measure => simp [intOf]; omega
    · have hk' : (4 : Int) ≤ (k : Int) := by omega
      have hk4' : k = 4 := by omega
      rw [hk4'] at hX
      have HK := Lib.hid hk4'
      clear hk4'
      have hfin : addMid (rounds 4 M) M = fin M := rfl
      have l4 : (rounds 4 M).length = 16 := by rw [rounds_length, HML.out]
      generalize rounds 4 M = R at hX hfin l4
      rw [← amid_four R M l4, ] at hX
      rw [← amid_end, HRES.out] at hfin
      have HFIN := Lib.hid hfin
      clear hfin l4 HRES
      go_wp2_with fail
      obtain ⟨wo, rfl⟩ : ∃ wo : World, wo = wr := ⟨_, rfl⟩
      go_loopw [8] (fun i wr => ∃ p : Nat, 4 ≤ p ∧ p ≤ 12 ∧ i = .int .i64 (p : Int) ∧ B wr gx 79 (w32s (amid R M p)) ∧ B wr gf 79 (w32s M) ∧ B wr gr 79 Z16 ∧ Below w.heap.size w wr) (fun i _ => 12 - (intOf i).toNat)
      case atStart => exact ⟨4, by omega, by omega, rfl, hX, hF, hR, hbel⟩
      case round =>
        clear hX hF hR hbel
        obtain ⟨p, hp4, hp, rfl, hX, hF, hR, hbel⟩ := hrel
        by_cases hp12 : p < 12
        · have hp' : (p : Int) < 12 := by omega
          have hp16 : (p : Int) < 16 := by omega
          have hst := amid_step R M p hp4 (by omega)
          have hlen : p < (w32s (amid R M p)).length := by rw [w32s_length, amid_length]; omega
          have f0 : wr.cell? ⟨gx, p, none⟩ = some (.int .u32 (n32 (R.getD p 0))) := (hX.cell p).trans ((w32s_get _ p (by rw [amid_length]; omega)).trans (by rw [amid_here R M p (by omega)]))
          have f1 : wr.cell? ⟨gf, p, none⟩ = some (.int .u32 (n32 (M.getD p 0))) := (hF.cell p).trans (w32s_get _ p (by rw [HML.out]; omega))
          generalize R.getD p 0 = r at hst f0
          generalize M.getD p 0 = q at hst f1
          have HST := Lib.hid hst
          have HLEN := Lib.hid hlen
          clear hst hlen
          go_wp2_with fail
          go_still_tail 9, (by kernel_rfl)
          change wpList _ _ _ _ _ wr.drew
          replace hX := hX.drew
          replace hF := hF.drew
          replace hR := hR.drew
          replace hbel : Below w.heap.size w wr.drew := below_drewN hbel 1
          clear f0 f1
          generalize wr.drew = v at hX hF hR hbel ⊢
          go_wp2_with (refine wpList_store_one rfl 22 _ _ rfl gx p rfl hX (.int .u32 (n32 (r + q))) rfl HLEN.out rfl (by kernel_rfl) ?_; intro w8 hX8 hO8; (try go_frame))
          go_roundw
          case rel => exact ⟨p + 1, by omega, by omega, by go_num, (by rw [← HST.out, ← w32s_set]; exact hX8), hF.only hO8 nfx, hR.only hO8 nrx, hbel.trans (hO8.below _ lgx)⟩
          case measure => simp [intOf]; omega
        · have hp' : (12 : Int) ≤ (p : Int) := by omega
          have hp12' : p = 12 := by omega
          rw [hp12', HFIN.out] at hX
          have HP := Lib.hid hp12'
          have hbl : (blkOf s0 s1 s2 s3 c).length = 16 := fin_length _
          have IB := Lib.hid (info16 _ hbl)
          have LB := Lib.hid (show (w32s (blkOf s0 s1 s2 s3 c)).length = Z16.length by rw [w32s_length, hbl, Z16_length])
          have oB := w32s_one (blkOf s0 s1 s2 s3 c)
          clear hp12' hbl
          go_wp2_with (first
            | (refine wpList_load_all rfl 79 _ rfl gx rfl hX h79 rfl IB.out ?_)
            | (refine wpList_store_all rfl 79 _ _ rfl gr rfl hR (w32s (blkOf s0 s1 s2 s3 c)) rfl LB.out oB IB.out ?_; intro w9 hR9 hO9; (try go_frame)))
          exact bodyPost_ret (results_block rfl _ _ gr 79 _ _ rfl hR9 h79 rfl IB.out) rfl ⟨rfl, hbel.trans (hO9.below _ lgr)⟩
end Go.Proofs.Ytjhpffenlhfilaa.Ch
