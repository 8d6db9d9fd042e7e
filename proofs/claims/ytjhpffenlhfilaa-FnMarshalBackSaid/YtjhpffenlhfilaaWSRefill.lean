/- The walk of the reference's refill. -/
import Derived.Test.YtjhpffenlhfilaaWStep
namespace Go.Proofs.Ytjhpffenlhfilaa.Ch
open Go.RowKit Mem

set_option maxRecDepth 100000 in
set_option maxHeartbeats 4000000 in
theorem srefill_any (x : G) (hok : x.ok) (w : World) :
    Calls Try.prog 57 #[.agg x.parts.toArray] w fun e w' =>
      e = .returned (.agg x.refill.parts.toArray) ∧ Below w.heap.size w w' := by
  obtain ⟨tk, htk, hx, _⟩ := row_of zero35
  have h35 := Try.underlying35
  have h30 := Try.underlying30
  have hbl := x.bufs_length
  have hg4 := hok.1
  have hb28 : (u64s x.buf)[28]? = some (.int .u64 (n64 (x.buf.getD 28 0))) := u64s_get _ _ (by rw [G.buf_length]; omega)
  have hb29 : (u64s x.buf)[29]? = some (.int .u64 (n64 (x.buf.getD 29 0))) := u64s_get _ _ (by rw [G.buf_length]; omega)
  have hb30 : (u64s x.buf)[30]? = some (.int .u64 (n64 (x.buf.getD 30 0))) := u64s_get _ _ (by rw [G.buf_length]; omega)
  have hb31 : (u64s x.buf)[31]? = some (.int .u64 (n64 (x.buf.getD 31 0))) := u64s_get _ _ (by rw [G.buf_length]; omega)
  have hrp := refill_parts x hok
  rw [parts_pt x]
  generalize x.refill.parts = RES at hrp ⊢
  obtain ⟨c, hc⟩ : ∃ c, c = 4 * x.g := ⟨_, rfl⟩
  rw [← hc] at hrp ⊢
  have hc12 : c ≤ 12 := by omega
  have hcase : (x.g < 3 ∧ c = 0) ∨ (x.g < 3 ∧ c = 4) ∨ (x.g < 3 ∧ c = 8) ∨ (¬ x.g < 3 ∧ c = 12) := by omega
  generalize x.buf.getD 28 0 = t0 at hb28 hrp
  generalize x.buf.getD 29 0 = t1 at hb29 hrp
  generalize x.buf.getD 30 0 = t2 at hb30 hrp
  generalize x.buf.getD 31 0 = t3 at hb31 hrp
  generalize u64s x.buf = A at hbl hb28 hb29 hb30 hb31 ⊢
  generalize hi0 : Value.int .i64 (x.i : Int) = vi
  generalize hn0 : Value.int .i64 (x.n : Int) = vn
  have hi1 : vi.oneCell' = true := by rw [← hi0]; rfl
  have hn1 : vn.oneCell' = true := by rw [← hn0]; rfl
  clear hi0 hn0
  generalize x.s0 = s0 at hrp ⊢
  generalize x.s1 = s1 at hrp ⊢
  generalize x.s2 = s2 at hrp ⊢
  generalize x.s3 = s3 at hrp ⊢
  have HBL := Lib.hid hbl
  have hlen := pt_length hbl (.int .u64 (n64 s0)) (.int .u64 (n64 s1)) (.int .u64 (n64 s2)) (.int .u64 (n64 s3)) vi vn
  have HLEN := Lib.hid hlen
  have hset := fun v => pt_set38 hbl (.int .u64 (n64 s0)) (.int .u64 (n64 s1)) (.int .u64 (n64 s2)) (.int .u64 (n64 s3)) vi vn (.int .i64 (c : Int)) v
  have HSET := Lib.hid hset
  clear hlen hset
  have i33 : ∀ Y : List V, Y.length = 32 → (Try.prog.info? 33).map (·.size) = some (u64s Y).length := fun Y h => info32' Y h
  have I33 := Lib.hid i33
  clear i33
  clear hc hc12 hg4
  rcases hcase with ⟨h3, rfl⟩ | ⟨h3, rfl⟩ | ⟨h3, rfl⟩ | ⟨h3, rfl⟩
  · rw [if_pos h3] at hrp
    have cB := fun w => blockSpec_any s0 s1 s2 s3 (BitVec.ofNat 32 4) w
    have hn : n32 (BitVec.ofNat 32 4) = 4 := rfl
    rw [hn] at cB
    have hbk := blockL_length s0 s1 s2 s3 (BitVec.ofNat 32 4)
    have hres : RES = pt (.int .u64 (n64 s0)) (.int .u64 (n64 s1)) (.int .u64 (n64 s2)) (.int .u64 (n64 s3)) (u64s (blockL s0 s1 s2 s3 (BitVec.ofNat 32 4))) (.int .i64 0) (.int .i64 32) (.int .i64 4) := hrp
    have hrl : RES.length = 39 := by rw [hrp]; exact refL_length _ _ _ _ _
    have hro : ∀ v ∈ RES, v.oneCell' = true := by rw [hrp]; exact refL_one _ _ _ _ _
    have hsl : (u64s (blockL s0 s1 s2 s3 (BitVec.ofNat 32 4))).length = 32 := by rw [u64s_length, hbk]
    have hso := u64s_one (blockL s0 s1 s2 s3 (BitVec.ofNat 32 4))
    have hsi := I33.out _ hbk
    clear hrp hn hbk
    generalize u64s (blockL s0 s1 s2 s3 (BitVec.ofNat 32 4)) = R at cB hres hsl hso hsi
    have HSL := Lib.hid hsl
    have HSI := Lib.hid hsi
    have HRES := Lib.hid hres
    have IQ := Lib.hid (show (Try.prog.info? 35).map (·.size) = some RES.length by rw [size35, hrl])
    have HPL := Lib.hid (show RES.length = Z39.length by rw [hrl, Z39_length])
    clear hsl hsi hres hrl
    go_enter Try.func57, Try.ntmps57
    go_wp2_with (first
      | (refine wpList_box rfl 35 _ rfl _ (pt (.int .u64 (n64 s0)) (.int .u64 (n64 s1)) (.int .u64 (n64 s2)) (.int .u64 (n64 s3)) A vi vn (.int .i64 0)) rfl rfl ?_; intro gs w1 hgs hlt1 hS1 hb1; (try go_frame); have lgs : w.heap.size ≤ gs := hgs)
      | (refine wpList_alloc rfl 35 rfl tk _ Z39 htk hx rfl ?_; intro g2 w2 hg2 hlt2 hR2 hb2; (try go_frame); have hS2 := hS1.call hb2; have e2 := below_call hb1 hb1.size hb2; have n2s : g2 ≠ gs := (by have := hS1.lt; omega); have lg2 : w.heap.size ≤ g2 := (by have := hb1.size; omega); have f38 : w2.cell? ⟨gs, 38, none⟩ = some (.int .i64 0) := (hS2.cell 38).trans (pt_get38 HBL.out _ _ _ _ _ _ _))
      | (refine wpList_store_one rfl 3 _ _ rfl gs 38 rfl hS2 (.int .i64 4) rfl (by rw [pt_length HBL.out]; omega) rfl (by kernel_rfl) ?_; intro w3 hS3 hO3; (try go_frame); rw [pt_set38 HBL.out] at hS3; have hR3 := hR2.only hO3 n2s; have e3 := e2.trans (hO3.below _ lgs); have c38 : w3.cell? ⟨gs, 38, none⟩ = some (.int .i64 4) := (hS3.cell 38).trans (pt_get38 HBL.out _ _ _ _ _ _ _))
      | (refine wpList_load_part rfl 30 _ rfl gs 0 rfl hS3 (u64s [s0, s1, s2, s3]) (pt_seedpart _ _ _ _ _ _ _ _) h30 rfl (by kernel_rfl) ?_)
      | (go_at_call 33; refine (cB _).mono ?_; rintro e w6 ⟨rfl, hb6⟩; have hS6 := hS3.call hb6; have hR6 := hR3.call hb6; have e6 := below_call e3 e3.size hb6)
      | (refine wpList_store_part rfl 33 _ _ rfl gs 4 rfl hS6 R rfl (by rw [pt_length HBL.out, HSL.out]; omega) hso HSI.out ?_; intro w7 hS7 hO7; (try go_frame); rw [pt_putwords HBL.out _ _ _ _ _ _ _ R HSL.out] at hS7; have hR7 := hR6.only hO7 n2s; have e7 := e6.trans (hO7.below _ lgs))
      | (refine wpList_store_one rfl 3 _ _ rfl gs 36 rfl hS7 (.int .i64 0) rfl (by rw [pt_length HSL.out]; omega) rfl (by kernel_rfl) ?_; intro w8 hS8 hO8; (try go_frame); rw [pt_set36 HSL.out] at hS8; have hR8 := hR7.only hO8 n2s; have e8 := e7.trans (hO8.below _ lgs))
      | (refine wpList_store_one rfl 3 _ _ rfl gs 37 rfl hS8 (.int .i64 32) rfl (by rw [pt_length HSL.out]; omega) rfl (by kernel_rfl) ?_; intro w9 hS9 hO9; (try go_frame); rw [pt_set37 HSL.out] at hS9; have hR9 := hR8.only hO9 n2s; have e9 := e8.trans (hO9.below _ lgs); have g38 : w9.cell? ⟨gs, 38, none⟩ = some (.int .i64 4) := (hS9.cell 38).trans (pt_get38 HSL.out _ _ _ _ _ _ _); have hSF : B w9 gs 35 RES := (by rw [HRES.out]; exact hS9))
      | (refine wpList_load_all rfl 35 _ rfl gs rfl hSF h35 rfl IQ.out ?_)
      | (refine wpList_store_all rfl 35 _ _ rfl g2 rfl hR9 RES rfl HPL.out hro IQ.out ?_; intro wB hRB hOB; (try go_frame); have eB := e9.trans (hOB.below _ lg2)))
    exact bodyPost_ret (results_block rfl _ _ g2 35 RES _ rfl hRB h35 rfl IQ.out) rfl ⟨rfl, eB⟩
  · rw [if_pos h3] at hrp
    have cB := fun w => blockSpec_any s0 s1 s2 s3 (BitVec.ofNat 32 8) w
    have hn : n32 (BitVec.ofNat 32 8) = 8 := rfl
    rw [hn] at cB
    have hbk := blockL_length s0 s1 s2 s3 (BitVec.ofNat 32 8)
    have hres : RES = pt (.int .u64 (n64 s0)) (.int .u64 (n64 s1)) (.int .u64 (n64 s2)) (.int .u64 (n64 s3)) (u64s (blockL s0 s1 s2 s3 (BitVec.ofNat 32 8))) (.int .i64 0) (.int .i64 32) (.int .i64 8) := hrp
    have hrl : RES.length = 39 := by rw [hrp]; exact refL_length _ _ _ _ _
    have hro : ∀ v ∈ RES, v.oneCell' = true := by rw [hrp]; exact refL_one _ _ _ _ _
    have hsl : (u64s (blockL s0 s1 s2 s3 (BitVec.ofNat 32 8))).length = 32 := by rw [u64s_length, hbk]
    have hso := u64s_one (blockL s0 s1 s2 s3 (BitVec.ofNat 32 8))
    have hsi := I33.out _ hbk
    clear hrp hn hbk
    generalize u64s (blockL s0 s1 s2 s3 (BitVec.ofNat 32 8)) = R at cB hres hsl hso hsi
    have HSL := Lib.hid hsl
    have HSI := Lib.hid hsi
    have HRES := Lib.hid hres
    have IQ := Lib.hid (show (Try.prog.info? 35).map (·.size) = some RES.length by rw [size35, hrl])
    have HPL := Lib.hid (show RES.length = Z39.length by rw [hrl, Z39_length])
    clear hsl hsi hres hrl
    go_enter Try.func57, Try.ntmps57
    go_wp2_with (first
      | (refine wpList_box rfl 35 _ rfl _ (pt (.int .u64 (n64 s0)) (.int .u64 (n64 s1)) (.int .u64 (n64 s2)) (.int .u64 (n64 s3)) A vi vn (.int .i64 4)) rfl rfl ?_; intro gs w1 hgs hlt1 hS1 hb1; (try go_frame); have lgs : w.heap.size ≤ gs := hgs)
      | (refine wpList_alloc rfl 35 rfl tk _ Z39 htk hx rfl ?_; intro g2 w2 hg2 hlt2 hR2 hb2; (try go_frame); have hS2 := hS1.call hb2; have e2 := below_call hb1 hb1.size hb2; have n2s : g2 ≠ gs := (by have := hS1.lt; omega); have lg2 : w.heap.size ≤ g2 := (by have := hb1.size; omega); have f38 : w2.cell? ⟨gs, 38, none⟩ = some (.int .i64 4) := (hS2.cell 38).trans (pt_get38 HBL.out _ _ _ _ _ _ _))
      | (refine wpList_store_one rfl 3 _ _ rfl gs 38 rfl hS2 (.int .i64 8) rfl (by rw [pt_length HBL.out]; omega) rfl (by kernel_rfl) ?_; intro w3 hS3 hO3; (try go_frame); rw [pt_set38 HBL.out] at hS3; have hR3 := hR2.only hO3 n2s; have e3 := e2.trans (hO3.below _ lgs); have c38 : w3.cell? ⟨gs, 38, none⟩ = some (.int .i64 8) := (hS3.cell 38).trans (pt_get38 HBL.out _ _ _ _ _ _ _))
      | (refine wpList_load_part rfl 30 _ rfl gs 0 rfl hS3 (u64s [s0, s1, s2, s3]) (pt_seedpart _ _ _ _ _ _ _ _) h30 rfl (by kernel_rfl) ?_)
      | (go_at_call 33; refine (cB _).mono ?_; rintro e w6 ⟨rfl, hb6⟩; have hS6 := hS3.call hb6; have hR6 := hR3.call hb6; have e6 := below_call e3 e3.size hb6)
      | (refine wpList_store_part rfl 33 _ _ rfl gs 4 rfl hS6 R rfl (by rw [pt_length HBL.out, HSL.out]; omega) hso HSI.out ?_; intro w7 hS7 hO7; (try go_frame); rw [pt_putwords HBL.out _ _ _ _ _ _ _ R HSL.out] at hS7; have hR7 := hR6.only hO7 n2s; have e7 := e6.trans (hO7.below _ lgs))
      | (refine wpList_store_one rfl 3 _ _ rfl gs 36 rfl hS7 (.int .i64 0) rfl (by rw [pt_length HSL.out]; omega) rfl (by kernel_rfl) ?_; intro w8 hS8 hO8; (try go_frame); rw [pt_set36 HSL.out] at hS8; have hR8 := hR7.only hO8 n2s; have e8 := e7.trans (hO8.below _ lgs))
      | (refine wpList_store_one rfl 3 _ _ rfl gs 37 rfl hS8 (.int .i64 32) rfl (by rw [pt_length HSL.out]; omega) rfl (by kernel_rfl) ?_; intro w9 hS9 hO9; (try go_frame); rw [pt_set37 HSL.out] at hS9; have hR9 := hR8.only hO9 n2s; have e9 := e8.trans (hO9.below _ lgs); have g38 : w9.cell? ⟨gs, 38, none⟩ = some (.int .i64 8) := (hS9.cell 38).trans (pt_get38 HSL.out _ _ _ _ _ _ _); have hSF : B w9 gs 35 RES := (by rw [HRES.out]; exact hS9))
      | (refine wpList_load_all rfl 35 _ rfl gs rfl hSF h35 rfl IQ.out ?_)
      | (refine wpList_store_all rfl 35 _ _ rfl g2 rfl hR9 RES rfl HPL.out hro IQ.out ?_; intro wB hRB hOB; (try go_frame); have eB := e9.trans (hOB.below _ lg2)))
    exact bodyPost_ret (results_block rfl _ _ g2 35 RES _ rfl hRB h35 rfl IQ.out) rfl ⟨rfl, eB⟩
  · rw [if_pos h3] at hrp
    have cB := fun w => blockSpec_any s0 s1 s2 s3 (BitVec.ofNat 32 12) w
    have hn : n32 (BitVec.ofNat 32 12) = 12 := rfl
    rw [hn] at cB
    have hbk := blockL_length s0 s1 s2 s3 (BitVec.ofNat 32 12)
    have hres : RES = pt (.int .u64 (n64 s0)) (.int .u64 (n64 s1)) (.int .u64 (n64 s2)) (.int .u64 (n64 s3)) (u64s (blockL s0 s1 s2 s3 (BitVec.ofNat 32 12))) (.int .i64 0) (.int .i64 28) (.int .i64 12) := hrp
    have hrl : RES.length = 39 := by rw [hrp]; exact refL_length _ _ _ _ _
    have hro : ∀ v ∈ RES, v.oneCell' = true := by rw [hrp]; exact refL_one _ _ _ _ _
    have hsl : (u64s (blockL s0 s1 s2 s3 (BitVec.ofNat 32 12))).length = 32 := by rw [u64s_length, hbk]
    have hso := u64s_one (blockL s0 s1 s2 s3 (BitVec.ofNat 32 12))
    have hsi := I33.out _ hbk
    clear hrp hn hbk
    generalize u64s (blockL s0 s1 s2 s3 (BitVec.ofNat 32 12)) = R at cB hres hsl hso hsi
    have HSL := Lib.hid hsl
    have HSI := Lib.hid hsi
    have HRES := Lib.hid hres
    have IQ := Lib.hid (show (Try.prog.info? 35).map (·.size) = some RES.length by rw [size35, hrl])
    have HPL := Lib.hid (show RES.length = Z39.length by rw [hrl, Z39_length])
    clear hsl hsi hres hrl
    go_enter Try.func57, Try.ntmps57
    go_wp2_with (first
      | (refine wpList_box rfl 35 _ rfl _ (pt (.int .u64 (n64 s0)) (.int .u64 (n64 s1)) (.int .u64 (n64 s2)) (.int .u64 (n64 s3)) A vi vn (.int .i64 8)) rfl rfl ?_; intro gs w1 hgs hlt1 hS1 hb1; (try go_frame); have lgs : w.heap.size ≤ gs := hgs)
      | (refine wpList_alloc rfl 35 rfl tk _ Z39 htk hx rfl ?_; intro g2 w2 hg2 hlt2 hR2 hb2; (try go_frame); have hS2 := hS1.call hb2; have e2 := below_call hb1 hb1.size hb2; have n2s : g2 ≠ gs := (by have := hS1.lt; omega); have lg2 : w.heap.size ≤ g2 := (by have := hb1.size; omega); have f38 : w2.cell? ⟨gs, 38, none⟩ = some (.int .i64 8) := (hS2.cell 38).trans (pt_get38 HBL.out _ _ _ _ _ _ _))
      | (refine wpList_store_one rfl 3 _ _ rfl gs 38 rfl hS2 (.int .i64 12) rfl (by rw [pt_length HBL.out]; omega) rfl (by kernel_rfl) ?_; intro w3 hS3 hO3; (try go_frame); rw [pt_set38 HBL.out] at hS3; have hR3 := hR2.only hO3 n2s; have e3 := e2.trans (hO3.below _ lgs); have c38 : w3.cell? ⟨gs, 38, none⟩ = some (.int .i64 12) := (hS3.cell 38).trans (pt_get38 HBL.out _ _ _ _ _ _ _))
      | (refine wpList_load_part rfl 30 _ rfl gs 0 rfl hS3 (u64s [s0, s1, s2, s3]) (pt_seedpart _ _ _ _ _ _ _ _) h30 rfl (by kernel_rfl) ?_)
      | (go_at_call 33; refine (cB _).mono ?_; rintro e w6 ⟨rfl, hb6⟩; have hS6 := hS3.call hb6; have hR6 := hR3.call hb6; have e6 := below_call e3 e3.size hb6)
      | (refine wpList_store_part rfl 33 _ _ rfl gs 4 rfl hS6 R rfl (by rw [pt_length HBL.out, HSL.out]; omega) hso HSI.out ?_; intro w7 hS7 hO7; (try go_frame); rw [pt_putwords HBL.out _ _ _ _ _ _ _ R HSL.out] at hS7; have hR7 := hR6.only hO7 n2s; have e7 := e6.trans (hO7.below _ lgs))
      | (refine wpList_store_one rfl 3 _ _ rfl gs 36 rfl hS7 (.int .i64 0) rfl (by rw [pt_length HSL.out]; omega) rfl (by kernel_rfl) ?_; intro w8 hS8 hO8; (try go_frame); rw [pt_set36 HSL.out] at hS8; have hR8 := hR7.only hO8 n2s; have e8 := e7.trans (hO8.below _ lgs))
      | (refine wpList_store_one rfl 3 _ _ rfl gs 37 rfl hS8 (.int .i64 32) rfl (by rw [pt_length HSL.out]; omega) rfl (by kernel_rfl) ?_; intro w9 hS9 hO9; (try go_frame); rw [pt_set37 HSL.out] at hS9; have hR9 := hR8.only hO9 n2s; have e9 := e8.trans (hO9.below _ lgs); have g38 : w9.cell? ⟨gs, 38, none⟩ = some (.int .i64 12) := (hS9.cell 38).trans (pt_get38 HSL.out _ _ _ _ _ _ _))
      | (refine wpList_store_one rfl 3 _ _ rfl gs 37 rfl hS9 (.int .i64 28) rfl (by rw [pt_length HSL.out]; omega) rfl (by kernel_rfl) ?_; intro wA hSA hOA; (try go_frame); rw [pt_set37 HSL.out] at hSA; have hRA := hR9.only hOA n2s; have eA := e9.trans (hOA.below _ lgs); have hSF : B wA gs 35 RES := (by rw [HRES.out]; exact hSA))
      | (refine wpList_load_all rfl 35 _ rfl gs rfl hSF h35 rfl IQ.out ?_)
      | (refine wpList_store_all rfl 35 _ _ rfl g2 rfl hRA RES rfl HPL.out hro IQ.out ?_; intro wB hRB hOB; (try go_frame); have eB := eA.trans (hOB.below _ lg2)))
    exact bodyPost_ret (results_block rfl _ _ g2 35 RES _ rfl hRB h35 rfl IQ.out) rfl ⟨rfl, eB⟩
  · rw [if_neg h3] at hrp
    have cB := fun w => blockSpec_any t0 t1 t2 t3 (BitVec.ofNat 32 0) w
    have hn : n32 (BitVec.ofNat 32 0) = 0 := rfl
    rw [hn] at cB
    have hbk := blockL_length t0 t1 t2 t3 (BitVec.ofNat 32 0)
    have hres : RES = pt (.int .u64 (n64 t0)) (.int .u64 (n64 t1)) (.int .u64 (n64 t2)) (.int .u64 (n64 t3)) (u64s (blockL t0 t1 t2 t3 (BitVec.ofNat 32 0))) (.int .i64 0) (.int .i64 32) (.int .i64 0) := hrp
    have hrl : RES.length = 39 := by rw [hrp]; exact refL_length _ _ _ _ _
    have hro : ∀ v ∈ RES, v.oneCell' = true := by rw [hrp]; exact refL_one _ _ _ _ _
    have hsl : (u64s (blockL t0 t1 t2 t3 (BitVec.ofNat 32 0))).length = 32 := by rw [u64s_length, hbk]
    have hso := u64s_one (blockL t0 t1 t2 t3 (BitVec.ofNat 32 0))
    have hsi := I33.out _ hbk
    clear hrp hn hbk
    generalize u64s (blockL t0 t1 t2 t3 (BitVec.ofNat 32 0)) = R at cB hres hsl hso hsi
    have HSL := Lib.hid hsl
    have HSI := Lib.hid hsi
    have HRES := Lib.hid hres
    have IQ := Lib.hid (show (Try.prog.info? 35).map (·.size) = some RES.length by rw [size35, hrl])
    have HPL := Lib.hid (show RES.length = Z39.length by rw [hrl, Z39_length])
    clear hsl hsi hres hrl
    go_enter Try.func57, Try.ntmps57
    go_wp2_with (first
      | (refine wpList_box rfl 35 _ rfl _ (pt (.int .u64 (n64 s0)) (.int .u64 (n64 s1)) (.int .u64 (n64 s2)) (.int .u64 (n64 s3)) A vi vn (.int .i64 12)) rfl rfl ?_; intro gs w1 hgs hlt1 hS1 hb1; (try go_frame); have lgs : w.heap.size ≤ gs := hgs)
      | (refine wpList_alloc rfl 35 rfl tk _ Z39 htk hx rfl ?_; intro g2 w2 hg2 hlt2 hR2 hb2; (try go_frame); have hS2 := hS1.call hb2; have e2 := below_call hb1 hb1.size hb2; have n2s : g2 ≠ gs := (by have := hS1.lt; omega); have lg2 : w.heap.size ≤ g2 := (by have := hb1.size; omega); have f38 : w2.cell? ⟨gs, 38, none⟩ = some (.int .i64 12) := (hS2.cell 38).trans (pt_get38 HBL.out _ _ _ _ _ _ _))
      | (refine wpList_store_one rfl 3 _ _ rfl gs 38 rfl hS2 (.int .i64 16) rfl (by rw [pt_length HBL.out]; omega) rfl (by kernel_rfl) ?_; intro w3 hS3 hO3; (try go_frame); rw [pt_set38 HBL.out] at hS3; have hR3 := hR2.only hO3 n2s; have e3 := e2.trans (hO3.below _ lgs); have c38 : w3.cell? ⟨gs, 38, none⟩ = some (.int .i64 16) := (hS3.cell 38).trans (pt_get38 HBL.out _ _ _ _ _ _ _); have b28 : w3.cell? ⟨gs, 4 + 28, none⟩ = some (.int .u64 (n64 t0)) := (hS3.cell _).trans ((pt_low HBL.out _ _ _ _ _ _ _ 28 (by omega)).trans hb28); have b29 : w3.cell? ⟨gs, 4 + 29, none⟩ = some (.int .u64 (n64 t1)) := (hS3.cell _).trans ((pt_low HBL.out _ _ _ _ _ _ _ 29 (by omega)).trans hb29); have b30 : w3.cell? ⟨gs, 4 + 30, none⟩ = some (.int .u64 (n64 t2)) := (hS3.cell _).trans ((pt_low HBL.out _ _ _ _ _ _ _ 30 (by omega)).trans hb30); have b31 : w3.cell? ⟨gs, 4 + 31, none⟩ = some (.int .u64 (n64 t3)) := (hS3.cell _).trans ((pt_low HBL.out _ _ _ _ _ _ _ 31 (by omega)).trans hb31))
      | (refine wpList_store_part rfl 30 _ _ rfl gs 0 rfl hS3 (u64s [t0, t1, t2, t3]) rfl (by rw [pt_length HBL.out]; show 0 + 4 ≤ 39; omega) (u64s_one _) (by kernel_rfl) ?_; intro w4 hS4 hO4; (try go_frame); have hS4' : B w4 gs 35 (pt (.int .u64 (n64 t0)) (.int .u64 (n64 t1)) (.int .u64 (n64 t2)) (.int .u64 (n64 t3)) A vi vn (.int .i64 16)) := (by rw [← pt_putseed]; exact hS4); have hR4 := hR3.only hO4 n2s; have e4 := e3.trans (hO4.below _ lgs))
      | (refine wpList_store_one rfl 3 _ _ rfl gs 38 rfl hS4' (.int .i64 0) rfl (by rw [pt_length HBL.out]; omega) rfl (by kernel_rfl) ?_; intro w5 hS5 hO5; (try go_frame); rw [pt_set38 HBL.out] at hS5; have hR5 := hR4.only hO5 n2s; have e5 := e4.trans (hO5.below _ lgs); have d38 : w5.cell? ⟨gs, 38, none⟩ = some (.int .i64 0) := (hS5.cell 38).trans (pt_get38 HBL.out _ _ _ _ _ _ _))
      | (refine wpList_load_part rfl 30 _ rfl gs 0 rfl hS5 (u64s [t0, t1, t2, t3]) (pt_seedpart _ _ _ _ _ _ _ _) h30 rfl (by kernel_rfl) ?_)
      | (go_at_call 33; refine (cB _).mono ?_; rintro e w6 ⟨rfl, hb6⟩; have hS6 := hS5.call hb6; have hR6 := hR5.call hb6; have e6 := below_call e5 e5.size hb6)
      | (refine wpList_store_part rfl 33 _ _ rfl gs 4 rfl hS6 R rfl (by rw [pt_length HBL.out, HSL.out]; omega) hso HSI.out ?_; intro w7 hS7 hO7; (try go_frame); rw [pt_putwords HBL.out _ _ _ _ _ _ _ R HSL.out] at hS7; have hR7 := hR6.only hO7 n2s; have e7 := e6.trans (hO7.below _ lgs))
      | (refine wpList_store_one rfl 3 _ _ rfl gs 36 rfl hS7 (.int .i64 0) rfl (by rw [pt_length HSL.out]; omega) rfl (by kernel_rfl) ?_; intro w8 hS8 hO8; (try go_frame); rw [pt_set36 HSL.out] at hS8; have hR8 := hR7.only hO8 n2s; have e8 := e7.trans (hO8.below _ lgs))
      | (refine wpList_store_one rfl 3 _ _ rfl gs 37 rfl hS8 (.int .i64 32) rfl (by rw [pt_length HSL.out]; omega) rfl (by kernel_rfl) ?_; intro w9 hS9 hO9; (try go_frame); rw [pt_set37 HSL.out] at hS9; have hR9 := hR8.only hO9 n2s; have e9 := e8.trans (hO9.below _ lgs); have g38 : w9.cell? ⟨gs, 38, none⟩ = some (.int .i64 0) := (hS9.cell 38).trans (pt_get38 HSL.out _ _ _ _ _ _ _); have hSF : B w9 gs 35 RES := (by rw [HRES.out]; exact hS9))
      | (refine wpList_load_all rfl 35 _ rfl gs rfl hSF h35 rfl IQ.out ?_)
      | (refine wpList_store_all rfl 35 _ _ rfl g2 rfl hR9 RES rfl HPL.out hro IQ.out ?_; intro wB hRB hOB; (try go_frame); have eB := e9.trans (hOB.below _ lg2)))
    exact bodyPost_ret (results_block rfl _ _ g2 35 RES _ rfl hRB h35 rfl IQ.out) rfl ⟨rfl, eB⟩
end Go.Proofs.Ytjhpffenlhfilaa.Ch
