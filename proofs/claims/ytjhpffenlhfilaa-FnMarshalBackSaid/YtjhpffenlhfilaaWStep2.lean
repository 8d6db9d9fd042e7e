/- The walks of the reference's drawn, full, reseed, Step. -/
import Derived.Test.YtjhpffenlhfilaaWSRefill
import Derived.Test.YtjhpffenlhfilaaRun
import Derived.Test.YtjhpffenlhfilaaWReseed
namespace Go.Proofs.Ytjhpffenlhfilaa.Ch
open Go.RowKit Mem

set_option maxRecDepth 100000 in
set_option maxHeartbeats 4000000 in
theorem sdrawn_any (x : G) (hok : x.ok) (w : World) :
    Calls Try.prog 70 #[.agg x.parts.toArray] w fun e w' =>
      e = .returned (.tuple #[.agg x.drawn.parts.toArray, .int .u64 (n64 x.told)]) ∧ Below w.heap.size w w' := by
  obtain ⟨tk, htk, hx, _⟩ := row_of zero35
  have h35 := Try.underlying35
  have hbl := x.bufs_length
  have F36 := Lib.hid (show x.parts[36]? = some (.int .i64 (x.i : Int)) from pt_get36 hbl _ _ _ _ _ _ _)
  have F37 := Lib.hid (show x.parts[37]? = some (.int .i64 (x.n : Int)) from pt_get37 hbl _ _ _ _ _ _ _)
  have IX := Lib.hid (iParts x)
  have LX := Lib.hid (lParts x)
  have hpx := parts_one x
  by_cases hi : x.i < x.n
  · have hdr : x.drawn = x.adv := by unfold G.drawn; rw [show x.some_ = x from if_pos hi]
    have htd : x.told = x.val := by unfold G.told; rw [show x.some_ = x from if_pos hi]
    have CN := Lib.hid (fun w => snext_some x hi w)
    rw [hdr, htd]
    have i1 : (x.i : Int) < (x.n : Int) := by omega
    obtain ⟨i, hiq⟩ : ∃ i, i = x.i := ⟨_, rfl⟩
    obtain ⟨n, hnq⟩ : ∃ n, n = x.n := ⟨_, rfl⟩
    rw [← hiq] at F36 i1
    rw [← hnq] at F37 i1
    clear hiq hnq hdr htd hi hbl
    have IY := Lib.hid (iParts x.adv)
    have LY := Lib.hid (show x.adv.parts.length = x.parts.length by rw [G.parts_length, G.parts_length])
    have LYZ := Lib.hid (lParts x.adv)
    have hpy := parts_one x.adv
    go_enter Try.func70, Try.ntmps70
    go_wp2_with (first
      | (refine wpList_box rfl 35 _ rfl _ x.parts rfl rfl ?_; intro gs w1 hgs hlt1 hS1 hb1; (try go_frame); have lgs : w.heap.size ≤ gs := hgs)
      | (refine wpList_alloc rfl 35 rfl tk _ Z39 htk hx rfl ?_; intro g2 w2 hg2 hlt2 hR2 hb2; (try go_frame); have hS2 := hS1.call hb2; have e2 := below_call hb1 hb1.size hb2; have n2s : g2 ≠ gs := (by have := hS1.lt; omega); have lg2 : w.heap.size ≤ g2 := (by have := hb1.size; omega); have c36 : w2.cell? ⟨gs, 36, none⟩ = some (.int .i64 (i : Int)) := (hS2.cell 36).trans F36.out; have c37 : w2.cell? ⟨gs, 37, none⟩ = some (.int .i64 (n : Int)) := (hS2.cell 37).trans F37.out)
      | (refine wpList_load_all rfl 35 _ rfl gs rfl hS2 h35 rfl IX.out ?_)
      | (go_at_call 56; refine (CN.out _).mono ?_; rintro e w3 ⟨rfl, hb3⟩; have hS3 := hS2.call hb3; have hR3 := hR2.call hb3; have e3 := below_call e2 e2.size hb3)
      | (refine wpList_store_all rfl 35 _ _ rfl gs rfl hS3 x.adv.parts rfl LY.out hpy IY.out ?_; intro w4 hS4 hO4; (try go_frame); have hR4 := hR3.only hO4 n2s; have e4 := e3.trans (hO4.below _ lgs))
      | (refine wpList_load_all rfl 35 _ rfl gs rfl hS4 h35 rfl IY.out ?_)
      | (refine wpList_store_all rfl 35 _ _ rfl g2 rfl hR4 x.adv.parts rfl LYZ.out hpy IY.out ?_; intro w5 hR5 hO5; (try go_frame); have e5 := e4.trans (hO5.below _ lg2)))
    refine bodyPost_ret (results_block_tmp rfl _ _ g2 35 _ _ rfl hR5 h35 rfl IY.out) rfl ?_
    exact ⟨rfl, e5⟩
  · have hdr : x.drawn = x.refill.adv := by unfold G.drawn; rw [show x.some_ = x.refill from if_neg hi]
    have htd : x.told = x.refill.val := by unfold G.told; rw [show x.some_ = x.refill from if_neg hi]
    have CR := Lib.hid (fun w => srefill_any x hok w)
    have CN := Lib.hid (fun w => snext_some x.refill x.refill_lt w)
    rw [hdr, htd]
    have i1 : (x.n : Int) ≤ (x.i : Int) := by omega
    obtain ⟨i, hiq⟩ : ∃ i, i = x.i := ⟨_, rfl⟩
    obtain ⟨n, hnq⟩ : ∃ n, n = x.n := ⟨_, rfl⟩
    rw [← hiq] at F36 i1
    rw [← hnq] at F37 i1
    clear hiq hnq hdr htd hi hbl
    have LZ := Lib.hid (show x.refill.parts.length = x.parts.length by rw [G.parts_length, G.parts_length])
    generalize x.refill = z at CR CN LZ ⊢
    have IZ := Lib.hid (iParts z)
    have hpz := parts_one z
    have IY := Lib.hid (iParts z.adv)
    have LY := Lib.hid (show z.adv.parts.length = z.parts.length by rw [G.parts_length, G.parts_length])
    have LYZ := Lib.hid (lParts z.adv)
    have hpy := parts_one z.adv
    go_enter Try.func70, Try.ntmps70
    go_wp2_with (first
      | (refine wpList_box rfl 35 _ rfl _ x.parts rfl rfl ?_; intro gs w1 hgs hlt1 hS1 hb1; (try go_frame); have lgs : w.heap.size ≤ gs := hgs)
      | (refine wpList_alloc rfl 35 rfl tk _ Z39 htk hx rfl ?_; intro g2 w2 hg2 hlt2 hR2 hb2; (try go_frame); have hS2 := hS1.call hb2; have e2 := below_call hb1 hb1.size hb2; have n2s : g2 ≠ gs := (by have := hS1.lt; omega); have lg2 : w.heap.size ≤ g2 := (by have := hb1.size; omega); have c36 : w2.cell? ⟨gs, 36, none⟩ = some (.int .i64 (i : Int)) := (hS2.cell 36).trans F36.out; have c37 : w2.cell? ⟨gs, 37, none⟩ = some (.int .i64 (n : Int)) := (hS2.cell 37).trans F37.out)
      | (refine wpList_load_all rfl 35 _ rfl gs rfl hS2 h35 rfl IX.out ?_)
      | (go_at_call 57; refine (CR.out _).mono ?_; rintro e u3 ⟨rfl, hc3⟩; have hT3 := hS2.call hc3; have hU3 := hR2.call hc3; have f3 := below_call e2 e2.size hc3)
      | (refine wpList_store_all rfl 35 _ _ rfl gs rfl hT3 z.parts rfl LZ.out hpz IZ.out ?_; intro u4 hT4 hQ4; (try go_frame); have hU4 := hU3.only hQ4 n2s; have f4 := f3.trans (hQ4.below _ lgs))
      | (refine wpList_load_all rfl 35 _ rfl gs rfl hT4 h35 rfl IZ.out ?_)
      | (go_at_call 56; refine (CN.out _).mono ?_; rintro e w3 ⟨rfl, hb3⟩; have hS3 := hT4.call hb3; have hR3 := hU4.call hb3; have e3 := below_call f4 f4.size hb3)
      | (refine wpList_store_all rfl 35 _ _ rfl gs rfl hS3 z.adv.parts rfl LY.out hpy IY.out ?_; intro w4 hS4 hO4; (try go_frame); have hR4 := hR3.only hO4 n2s; have e4 := e3.trans (hO4.below _ lgs))
      | (refine wpList_load_all rfl 35 _ rfl gs rfl hS4 h35 rfl IY.out ?_)
      | (refine wpList_store_all rfl 35 _ _ rfl g2 rfl hR4 z.adv.parts rfl LYZ.out hpy IY.out ?_; intro w5 hR5 hO5; (try go_frame); have e5 := e4.trans (hO5.below _ lg2)))
    refine bodyPost_ret (results_block_tmp rfl _ _ g2 35 _ _ rfl hR5 h35 rfl IY.out) rfl ?_
    exact ⟨rfl, e5⟩

set_option maxRecDepth 100000 in
set_option maxHeartbeats 4000000 in
theorem sfull_any (x : G) (hok : x.ok) (w : World) :
    Calls Try.prog 59 #[.agg x.parts.toArray] w fun e w' =>
      e = .returned (.agg x.full.parts.toArray) ∧ Below w.heap.size w w' := by
  obtain ⟨tk, htk, hx, _⟩ := row_of zero35
  have h35 := Try.underlying35
  have hbl := x.bufs_length
  have F36 := Lib.hid (show x.parts[36]? = some (.int .i64 (x.i : Int)) from pt_get36 hbl _ _ _ _ _ _ _)
  have F38 := Lib.hid (show x.parts[38]? = some (.int .i64 ((4 * x.g : Nat) : Int)) from pt_get38 hbl _ _ _ _ _ _ _)
  have IX := Lib.hid (iParts x)
  have LX := Lib.hid (lParts x)
  have hpx := parts_one x
  have CR := Lib.hid (fun w => srefill_any x hok w)
  have hfull : x.full = if x.i = 32 ∧ x.g < 3 then x.refill else x := rfl
  have IZ := Lib.hid (iParts x.refill)
  have LZ := Lib.hid (lParts x.refill)
  have hpz := parts_one x.refill
  obtain ⟨i, hiq⟩ : ∃ i, i = x.i := ⟨_, rfl⟩
  obtain ⟨c, hcq⟩ : ∃ c, c = 4 * x.g := ⟨_, rfl⟩
  rw [← hiq] at F36
  rw [← hcq] at F38
  have hcase : (x.i = 32 ∧ x.g < 3 ∧ (i : Int) = 32 ∧ (c : Int) < 12) ∨ (¬ (x.i = 32 ∧ x.g < 3) ∧ (i : Int) ≠ 32) ∨ (¬ (x.i = 32 ∧ x.g < 3) ∧ (i : Int) = 32 ∧ (12 : Int) ≤ (c : Int)) := by omega
  clear hiq hcq hbl hok
  generalize hZg : x.refill.parts = Z at CR IZ LZ hpz
  rcases hcase with ⟨h1, h2, i1, i2⟩ | ⟨h1, i1⟩ | ⟨h1, i1, i2⟩
  · have hf : x.full.parts = Z := by rw [hfull, if_pos ⟨h1, h2⟩, hZg]
    have HF := Lib.hid hf
    rw [i1] at F36
    clear hf hfull hZg h1 h2 i1
    go_enter Try.func59, Try.ntmps59
    go_wp2_with (first
      | (refine wpList_box rfl 35 _ rfl _ x.parts rfl rfl ?_; intro gs w1 hgs hlt1 hS1 hb1; (try go_frame))
      | (refine wpList_alloc rfl 35 rfl tk _ Z39 htk hx rfl ?_; intro g2 w2 hg2 hlt2 hR2 hb2; (try go_frame); have hS2 := hS1.call hb2; have e2 := below_call hb1 hb1.size hb2; have lg2 : w.heap.size ≤ g2 := (by have := hb1.size; omega); have c36 : w2.cell? ⟨gs, 36, none⟩ = some (.int .i64 32) := (hS2.cell 36).trans F36.out; have c38 : w2.cell? ⟨gs, 38, none⟩ = some (.int .i64 (c : Int)) := (hS2.cell 38).trans F38.out)
      | (refine wpList_load_all rfl 35 _ rfl gs rfl hS2 h35 rfl IX.out ?_)
      | (go_at_call 57; refine (CR.out _).mono ?_; rintro e w3 ⟨rfl, hb3⟩; have hR3 := hR2.call hb3; have e3 := below_call e2 e2.size hb3)
      | (refine wpList_store_all rfl 35 _ _ rfl g2 rfl hR3 Z rfl LZ.out hpz IZ.out ?_; intro w5 hR5 hO5; (try go_frame); have e5 := e3.trans (hO5.below _ lg2)))
    exact bodyPost_ret (results_block rfl _ _ g2 35 Z _ rfl hR5 h35 rfl IZ.out) rfl ⟨(by rw [HF.out]), e5⟩
  · have hf : x.full.parts = x.parts := by rw [hfull, if_neg h1]
    have HF := Lib.hid hf
    have i3 : ((i : Int) == 32) = false := beq_eq_false_iff_ne.2 i1
    clear hf hfull hZg h1
    go_enter Try.func59, Try.ntmps59
    go_wp2_with (first
      | (refine wpList_box rfl 35 _ rfl _ x.parts rfl rfl ?_; intro gs w1 hgs hlt1 hS1 hb1; (try go_frame))
      | (refine wpList_alloc rfl 35 rfl tk _ Z39 htk hx rfl ?_; intro g2 w2 hg2 hlt2 hR2 hb2; (try go_frame); have hS2 := hS1.call hb2; have e2 := below_call hb1 hb1.size hb2; have lg2 : w.heap.size ≤ g2 := (by have := hb1.size; omega); have c36 : w2.cell? ⟨gs, 36, none⟩ = some (.int .i64 (i : Int)) := (hS2.cell 36).trans F36.out; have c38 : w2.cell? ⟨gs, 38, none⟩ = some (.int .i64 (c : Int)) := (hS2.cell 38).trans F38.out)
      | (refine wpList_load_all rfl 35 _ rfl gs rfl hS2 h35 rfl IX.out ?_)
      | (refine wpList_store_all rfl 35 _ _ rfl g2 rfl hR2 x.parts rfl LX.out hpx IX.out ?_; intro w5 hR5 hO5; (try go_frame); have e5 := e2.trans (hO5.below _ lg2)))
    exact bodyPost_ret (results_block rfl _ _ g2 35 x.parts _ rfl hR5 h35 rfl IX.out) rfl ⟨(by rw [HF.out]), e5⟩
  · have hf : x.full.parts = x.parts := by rw [hfull, if_neg h1]
    have HF := Lib.hid hf
    rw [i1] at F36
    clear hf hfull hZg h1 i1
    go_enter Try.func59, Try.ntmps59
    go_wp2_with (first
      | (refine wpList_box rfl 35 _ rfl _ x.parts rfl rfl ?_; intro gs w1 hgs hlt1 hS1 hb1; (try go_frame))
      | (refine wpList_alloc rfl 35 rfl tk _ Z39 htk hx rfl ?_; intro g2 w2 hg2 hlt2 hR2 hb2; (try go_frame); have hS2 := hS1.call hb2; have e2 := below_call hb1 hb1.size hb2; have lg2 : w.heap.size ≤ g2 := (by have := hb1.size; omega); have c36 : w2.cell? ⟨gs, 36, none⟩ = some (.int .i64 32) := (hS2.cell 36).trans F36.out; have c38 : w2.cell? ⟨gs, 38, none⟩ = some (.int .i64 (c : Int)) := (hS2.cell 38).trans F38.out)
      | (refine wpList_load_all rfl 35 _ rfl gs rfl hS2 h35 rfl IX.out ?_)
      | (refine wpList_store_all rfl 35 _ _ rfl g2 rfl hR2 x.parts rfl LX.out hpx IX.out ?_; intro w5 hR5 hO5; (try go_frame); have e5 := e2.trans (hO5.below _ lg2)))
    exact bodyPost_ret (results_block rfl _ _ g2 35 x.parts _ rfl hR5 h35 rfl IX.out) rfl ⟨(by rw [HF.out]), e5⟩

set_option maxRecDepth 100000 in
set_option maxHeartbeats 4000000 in
theorem sreseed_any (x : G) (hok : x.ok) (w : World) :
    Calls Try.prog 58 #[.agg x.parts.toArray] w fun e w' =>
      e = .returned (.agg x.reseed.parts.toArray) ∧ Below w.heap.size w w' := by
  obtain ⟨tk, htk, hx, _⟩ := row_of zero35
  obtain ⟨ti, hti, hz, _⟩ := row_of zero30
  have hz' : ti.zero = some (.agg Z4.toArray) := hz
  have h35 := Try.underlying35
  have h30 := Try.underlying30
  have bl4 : ∀ w, (Instr.build 30 #[]).run Try.prog w = .ok (.agg Z4.toArray) w := fun w => by kernel_rfl
  have iZ4 : (Try.prog.info? 30).map (·.size) = some Z4.length := by kernel_rfl
  have oZ4 : ∀ v ∈ Z4, v.oneCell' = true := u64s_one _
  go_enter Try.func58, Try.ntmps58
  go_wp2_with (first
    | (refine wpList_box rfl 35 _ rfl _ x.parts rfl rfl ?_; intro gs w1 hgs hlt1 hS1 hb1; (try go_frame); have lgs : w.heap.size ≤ gs := hgs)
    | (refine wpList_alloc rfl 35 rfl tk _ Z39 htk hx rfl ?_; intro g2 w2 hg2 hlt2 hR2 hb2; (try go_frame); have hS2 := hS1.call hb2; have e2 := below_call hb1 hb1.size hb2; have n2s : g2 ≠ gs := (by have := hS1.lt; omega); have lg2 : w.heap.size ≤ g2 := (by have := hb1.size; omega))
    | (refine wpList_build0 rfl 30 rfl _ bl4 ?_; (try go_frame))
    | (refine wpList_alloc rfl 30 rfl ti _ Z4 hti hz' rfl ?_; intro g3 w3 hg3 hlt3 hQ3 hb3; (try go_frame); have hS3 := hS2.call hb3; have hR3 := hR2.call hb3; have e3 := below_call e2 e2.size hb3; have lg3 : w.heap.size ≤ g3 := (by have := e2.size; omega); have n3s : gs ≠ g3 := (by have := hS2.lt; omega); have n32 : g2 ≠ g3 := (by have := hR2.lt; omega))
    | (refine wpList_store_all rfl 30 _ _ rfl g3 rfl hQ3 Z4 rfl rfl oZ4 iZ4 ?_; intro w4 hQ4 hO4; (try go_frame); have hS4 := hS3.only hO4 n3s; have hR4 := hR3.only hO4 n32; have e4 := e3.trans (hO4.below _ lg3)))
  have hS4' : B w4 gs 35 (x.it 0).parts := hS4
  have hQ4' : B w4 g3 30 (u64s (seedP x 0)) := hQ4
  clear hS1 hS2 hS3 hS4 hR2 hR3 hQ3 hQ4 hb1 hb2 hb3 e2 e3 hO4 hgs hlt1 hg2 hlt2 hg3 hlt3
  go_loopw [4] (fun i wr => ∃ k : Nat, k ≤ 4 ∧ i = .int .i64 (k : Int) ∧ B wr gs 35 (x.it k).parts ∧ B wr g3 30 (u64s (seedP x k)) ∧ B wr g2 35 Z39 ∧ Below w.heap.size w wr) (fun i _ => 4 - (intOf i).toNat)
  case atStart => exact ⟨0, Nat.zero_le _, rfl, hS4', hQ4', hR4, e4⟩
  case round =>
    clear hS4' hQ4' hR4 e4
    obtain ⟨k, hk, rfl, hS, hQ, hR, hbel⟩ := hrel
    by_cases hk4 : k < 4
    · have hk' : (k : Int) < 4 := by omega
      have hyok := G.it_ok hok k
      have hst := seedP_step x k hk4
      have hnx : x.it (k + 1) = (x.it k).drawn := rfl
      have hnt : x.nth k = (x.it k).told := rfl
      rw [hnt] at hst
      have HST := Lib.hid hst
      have HNX := Lib.hid hnx
      have HLEN := Lib.hid (show k < (u64s (seedP x k)).length by rw [u64s_length, seedP_length]; exact hk4)
      clear hst hnx hnt
      generalize x.it k = y at hS hyok HST HNX
      have CD := Lib.hid (fun w => sdrawn_any y hyok w)
      have IY := Lib.hid (iParts y)
      have ID := Lib.hid (iParts y.drawn)
      have LD := Lib.hid (show y.drawn.parts.length = y.parts.length by rw [G.parts_length, G.parts_length])
      have hpd := parts_one y.drawn
      go_wp2_with (first
        | (refine wpList_load_all rfl 35 _ rfl gs rfl hS h35 rfl IY.out ?_)
        | (go_at_call 70; refine (CD.out _).mono ?_; rintro e w5 ⟨rfl, hb5⟩; have hS5 := hS.call hb5; have hQ5 := hQ.call hb5; have hR5 := hR.call hb5; have e5 := below_call hbel hbel.size hb5)
        | (refine wpList_store_all rfl 35 _ _ rfl gs rfl hS5 y.drawn.parts rfl LD.out hpd ID.out ?_; intro w6 hS6 hO6; (try go_frame); have hQ6 := hQ5.only hO6 n3s.symm; have hR6 := hR5.only hO6 n2s; have e6 := e5.trans (hO6.below _ lgs))
        | (refine wpList_store_one rfl 29 _ _ rfl g3 k rfl hQ6 (.int .u64 (n64 y.told)) rfl HLEN.out rfl (by kernel_rfl) ?_; intro w7 hQ7 hO7; (try go_frame); have hS7 := hS6.only hO7 n3s; have hR7 := hR6.only hO7 n32; have e7 := e6.trans (hO7.below _ lg3)))
      go_roundw
      case rel => exact ⟨k + 1, by omega, by go_num, (by rw [HNX.out]; exact hS7), (by rw [← HST.out, ← u64s_set]; exact hQ7), hR7, e7⟩
      case measure => simp [intOf]; omega
    · have hk' : (4 : Int) ≤ (k : Int) := by omega
      have hk4' : k = 4 := by omega
      rw [hk4'] at hQ
      have HK := Lib.hid hk4'
      clear hk4'
      have hre := reseed_eq x
      have CS := Lib.hid (fun w => start_any (x.nth 0) (x.nth 1) (x.nth 2) (x.nth 3) w)
      rw [← hre] at CS
      have hQ' : B wr g3 30 (u64s [x.nth 0, x.nth 1, x.nth 2, x.nth 3]) := hQ
      have hi4 : (Try.prog.info? 30).map (·.size) = some (u64s [x.nth 0, x.nth 1, x.nth 2, x.nth 3]).length := by kernel_rfl
      have IR := Lib.hid (iParts x.reseed)
      have LR := Lib.hid (lParts x.reseed)
      have hpr := parts_one x.reseed
      clear hQ hre
      go_wp2_with (first
        | (refine wpList_load_all rfl 30 _ rfl g3 rfl hQ' h30 rfl hi4 ?_)
        | (go_at_call 54; refine (CS.out _).mono ?_; rintro e w5 ⟨rfl, hb5⟩; have hR5 := hR.call hb5; have e5 := below_call hbel hbel.size hb5)
        | (refine wpList_store_all rfl 35 _ _ rfl g2 rfl hR5 x.reseed.parts rfl LR.out hpr IR.out ?_; intro w6 hR6 hO6; (try go_frame); have e6 := e5.trans (hO6.below _ lg2)))
      exact bodyPost_ret (results_block rfl _ _ g2 35 x.reseed.parts _ rfl hR6 h35 rfl IR.out) rfl ⟨rfl, e6⟩
end Go.Proofs.Ytjhpffenlhfilaa.Ch
