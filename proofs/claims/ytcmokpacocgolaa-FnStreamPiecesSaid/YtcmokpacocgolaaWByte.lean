/- The walk of the reference's next byte. -/
import Derived.Test.YtcmokpacocgolaaWSwap
import Derived.Deep.RegionHeld3
namespace Go.Proofs.Ytcmokpacocgolaa.Rc
open Go.RowKit Mem

attribute [local go_sem ↓] loadSpc_eq storeSpc_eq

set_option maxRecDepth 100000 in
set_option maxHeartbeats 400000 in
theorem byte_any (c : C) (hc : Ok c) (w : World) :
    Calls Try.prog 31 #[.agg (spc c).toArray] w fun e w' =>
      e = .returned (.tuple #[.agg (spc (nxt c)).toArray, .int .u8 (outB (nxt c) : Nat)]) ∧ Below w.heap.size w w' := by
  obtain ⟨ti, hti, hz, hsz⟩ := row35
  have hlen := hc.len
  have HL := Lib.hid hlen
  clear hlen
  have hi256 : (c.i : Int) < 256 := by have := hc.i; omega
  have hj256 : (c.j : Int) < 256 := by have := hc.j; omega
  go_enter Try.func31, Try.ntmps31
  go_wp2_with (first
    | (refine wpList_box rfl 35 _ rfl _ (spc c) rfl rfl ?_; intro g1 w1 hg1 hlt1 hB1 hb1)
    | (refine wpList_alloc rfl 35 rfl ti _ (spc C0) hti hz rfl ?_; intro g2 w2 hg2 hlt2 hB2 hb2; (try go_frame); have hB := hB1.call hb2; have hne : g1 ≠ g2 := (by omega); have k1 : w2.cell? ⟨g1, 256, none⟩ = some (.int .i64 (c.i : Int)) := (by rw [hB.cell, spc_getI c HL.out]))
    | (refine wpList_store_one rfl 3 _ _ rfl g1 256 rfl hB _ rfl (by rw [spc_length c HL.out]; omega) rfl (by kernel_rfl) ?_; intro w3 hB3 hO3; (try go_frame)))
  -- the first index
  have e3 : B w3 g1 35 (spc { c with i := nxtI c }) := by
    have e : ((nxtI c : Nat) : Int) = ((c.i : Int) + 1) % 256 := by unfold nxtI; omega
    rw [← spc_setI c HL.out, e]
    exact hB3
  clear hB3 k1 hti hz hsz
  have hI : nxtI c < 256 := Nat.mod_lt _ (by omega)
  have hx : c.S.getD (nxtI c) 0 < 256 := getD_lt hc.lt _
  have k1 : w3.cell? ⟨g1, 256, none⟩ = some (.int .i64 (nxtI c : Nat)) := (e3.cell 256).trans (spc_getI { c with i := nxtI c } HL.out)
  have k2 : w3.cell? ⟨g1, 257, none⟩ = some (.int .i64 (c.j : Int)) := (e3.cell 257).trans (spc_getJ { c with i := nxtI c } HL.out)
  have k3 : w3.cell? ⟨g1, nxtI c, none⟩ = some (.int .u32 (c.S.getD (nxtI c) 0 : Nat)) := by
    rw [e3.cell]; exact spc_get { c with i := nxtI c } (nxtI c) (by show nxtI c < c.S.length; rw [HL.out]; exact hI)
  have f3 := e3.frozen 257
  have e4 : B (w3.setCell ⟨g1, 257, none⟩ (.int .i64 (((c.j : Int) + (c.S.getD (nxtI c) 0 : Nat)) % 256))).drew g1 35 (spc { c with i := nxtI c, j := nxtJ c }) := by
    have e : ((nxtJ c : Nat) : Int) = ((c.j : Int) + (c.S.getD (nxtI c) 0 : Nat)) % 256 := by unfold nxtJ; omega
    have h := (e3.set_ 257 (.int .i64 (nxtJ c : Nat))).drew
    rw [spc_setJ { c with i := nxtI c } HL.out, e] at h
    exact h
  have hI' : ((nxtI c : Nat) : Int) < 256 := by omega
  have hx' : ((c.S.getD (nxtI c) 0 : Nat) : Int) < 256 := by omega
  have H4 := Lib.hid e4
  clear e4
  generalize hgi : nxtI c = i1 at k1 k2 k3 hI hx hI' hx'
  have HI := Lib.hid hgi
  clear hgi
  generalize hgx : c.S.getD i1 0 = x at k3 hx hx'
  have HX := Lib.hid hgx
  clear hgx
  go_region
  have e4 := H4.out
  rw [HI.out, HX.out] at e4
  have hO4 : Only g1 w3 (w3.setCell ⟨g1, 257, none⟩ (.int .i64 (((c.j : Int) + (x : Int)) % 256))).drew := (Only.setCell g1 257 _ w3).drewN 1
  have hJ : nxtJ c < 256 := Nat.mod_lt _ (by omega)
  have hnx : nxt c = { S := swap c.S i1 (nxtJ c), i := i1, j := nxtJ c } := by rw [← HI.out]; rfl
  have HN := Lib.hid hnx
  clear k1 k2 k3 f3 e3 H4 hnx
  generalize (w3.setCell ⟨g1, 257, none⟩ (.int .i64 (((c.j : Int) + (x : Int)) % 256))).drew = w4 at e4 hO4 ⊢
  generalize hgj : nxtJ c = j1 at e4 hJ HN
  have HJ := Lib.hid hgj
  clear hgj
  have k1 : w4.cell? ⟨g1, 256, none⟩ = some (.int .i64 (i1 : Int)) := (e4.cell 256).trans (spc_getI { S := c.S, i := i1, j := j1 } HL.out)
  have k2 : w4.cell? ⟨g1, 257, none⟩ = some (.int .i64 (j1 : Int)) := (e4.cell 257).trans (spc_getJ { S := c.S, i := i1, j := j1 } HL.out)
  have hs24 : (Try.prog.info? 24).map (·.size) = some (u32s c.S).length := by rw [size24, u32s_length, HL.out]
  have HS := Lib.hid hs24
  clear hs24
  have hsw : (swap c.S i1 j1).length = 256 := by rw [swap_length, HL.out]
  have hs24' : (Try.prog.info? 24).map (·.size) = some (u32s (swap c.S i1 j1)).length := by rw [size24, u32s_length, hsw]
  have HS' := Lib.hid hs24'
  have HW := Lib.hid hsw
  clear hs24' hsw
  go_wp2_with (first
    | (refine wpList_load_part rfl 24 _ rfl g1 0 rfl e4 (u32s c.S) (spc_part { S := c.S, i := i1, j := j1 }) Try.underlying24 rfl HS.out ?_)
    | (go_at_call 32; refine (swapped_any c.S i1 j1 HL.out hI hJ _).mono ?_; rintro e w5 ⟨rfl, hb5⟩; have e5 := e4.call hb5)
    | (refine wpList_store_part rfl 24 _ _ rfl g1 0 rfl e5 (u32s (swap c.S i1 j1)) rfl (by have h := spc_length { S := c.S, i := i1, j := j1 } HL.out; rw [u32s_length, HW.out, h]; omega) (u32s_one _) HS'.out ?_; intro w6 e6 hO6; (try go_frame)))
  have e7 : B w6 g1 35 (spc (nxt c)) := by
    rw [HN.out, ← spc_put { S := c.S, i := i1, j := j1 } (swap c.S i1 j1) HL.out HW.out]
    exact e6
  have hn := nxt_ok hc
  have e2 : B w6 g2 35 (spc C0) := (((hB2.only hO3 hne.symm).only hO4 hne.symm).call hb5).only hO6 hne.symm
  have hni : (nxt c).i = i1 := by rw [HN.out]
  have hnj : (nxt c).j = j1 := by rw [HN.out]
  have k1 : w6.cell? ⟨g1, 256, none⟩ = some (.int .i64 (i1 : Int)) := by rw [e7.cell, spc_getI _ hn.len, hni]
  have k2 : w6.cell? ⟨g1, 257, none⟩ = some (.int .i64 (j1 : Int)) := by rw [e7.cell, spc_getJ _ hn.len, hnj]
  have k3 : w6.cell? ⟨g1, i1, none⟩ = some (.int .u32 ((nxt c).S.getD i1 0 : Nat)) := by rw [e7.cell, spc_get _ _ (by rw [hn.len]; omega)]
  have k4 : w6.cell? ⟨g1, j1, none⟩ = some (.int .u32 ((nxt c).S.getD j1 0 : Nat)) := by rw [e7.cell, spc_get _ _ (by rw [hn.len]; omega)]
  have k5 : w6.cell? ⟨g1, ((nxt c).S.getD i1 0 + (nxt c).S.getD j1 0) % 256, none⟩ = some (.int .u32 ((nxt c).S.getD (((nxt c).S.getD i1 0 + (nxt c).S.getD j1 0) % 256) 0 : Nat)) := by
    rw [e7.cell, spc_get _ _ (by rw [hn.len]; omega)]
  have hout : outB (nxt c) = (nxt c).S.getD (((nxt c).S.getD i1 0 + (nxt c).S.getD j1 0) % 256) 0 := by unfold outB; rw [hni, hnj]
  have b1 : (nxt c).S.getD i1 0 < 256 := getD_lt hn.lt _
  have b2 : (nxt c).S.getD j1 0 < 256 := getD_lt hn.lt _
  have b3 : (nxt c).S.getD (((nxt c).S.getD i1 0 + (nxt c).S.getD j1 0) % 256) 0 < 256 := getD_lt hn.lt _
  rw [← hout] at k5 b3
  have HO := Lib.hid hout
  have HN1 := Lib.hid hni
  have HN2 := Lib.hid hnj
  clear hout hni hnj
  generalize (nxt c).S.getD i1 0 = x1 at k3 k5 b1
  generalize (nxt c).S.getD j1 0 = x2 at k4 k5 b2
  generalize hg3 : outB (nxt c) = x3 at k5 b3
  have HX3 := Lib.hid hg3
  clear hg3
  have hj1 : (j1 : Int) < 256 := by omega
  have b1' : (x1 : Int) < 256 := by omega
  have b2' : (x2 : Int) < 256 := by omega
  have b3' : (x3 : Int) < 256 := by omega
  have hlen : (spc (nxt c)).length = 258 := spc_length _ hn.len
  have hr : w6.rangeAt g1 0 (spc (nxt c)) := e7.rangeAt 0 _ (by rw [List.drop_zero]; exact List.take_length)
  have h1 := spc_one (nxt c)
  have hi : (Try.prog.info? 35).map (·.size) = some (spc (nxt c)).length := by rw [size35, hlen]
  obtain ⟨e8, hO8⟩ := e2.drew.setCells_all Try.prog (spc (nxt c)) (by rw [hlen, spc_length C0 zeros_length]) h1
  have e9 := e7.drew.only hO8 hne
  have E1 : (loadSpc (.pointer (some ⟨g1, 0, none⟩))).run Try.prog w6.drew = .ok (.agg (spc (nxt c)).toArray) w6.drew :=
    run_loadAt_mid w6.drew g1 0 _ _ _ (e7.drew.rangeAt 0 _ (by rw [List.drop_zero]; exact List.take_length)) Try.underlying35 rfl hi
  have E2 : (loadSpc (.pointer (some ⟨g1, 0, none⟩))).run Try.prog (w6.drew.setCells g2 0 (spc (nxt c))) = .ok (.agg (spc (nxt c)).toArray) (w6.drew.setCells g2 0 (spc (nxt c))) :=
    run_loadAt_mid _ g1 0 _ _ _ (e9.rangeAt 0 _ (by rw [List.drop_zero]; exact List.take_length)) Try.underlying35 rfl hi
  have E3 : (storeSpc (.pointer (some ⟨g2, 0, none⟩)) (.agg (spc (nxt c)).toArray)).run Try.prog w6.drew = .ok () (w6.drew.setCells g2 0 (spc (nxt c))) := by
    have h := run_storeAt_mid (P := Try.prog) w6.drew g2 0 35 (spc (nxt c)).toArray (fun j hj => ⟨by rw [Nat.zero_add, World.cell?_drew, e2.cell, List.getElem?_eq_getElem (by rw [spc_length C0 zeros_length]; rw [List.size_toArray, hlen] at hj; exact hj)]; rfl, e2.frozen _⟩) (by rw [hi, List.size_toArray]) (all_oneCell_toArray h1)
    rw [List.toList_toArray] at h
    exact h
  have m1 := (e9.cell 256).trans ((e7.cell 256).symm.trans k1)
  have m2 := (e9.cell 257).trans ((e7.cell 257).symm.trans k2)
  have m3 := (e9.cell i1).trans ((e7.cell i1).symm.trans k3)
  have m4 := (e9.cell j1).trans ((e7.cell j1).symm.trans k4)
  have m5 := (e9.cell ((x1 + x2) % 256)).trans ((e7.cell ((x1 + x2) % 256)).symm.trans k5)
  generalize hgL : spc (nxt c) = L at hlen hr h1 hi e7 e8 e9 E1 E2 E3 m1 m2 m3 m4 m5 hO8
  have HGL := Lib.hid hgL
  have Hi := Lib.hid hi
  clear hgL hi hlen
  generalize w6.drew.setCells g2 0 L = w7 at e8 e9 E2 E3 m1 m2 m3 m4 m5 hO8
  clear e7 hB hB1 hB2 e4 e5 e6 hr
  go_region
  go_wp2
  have h35 := Try.underlying35
  refine bodyPost_ret (results_block_tmp rfl _ w7 g2 35 L _ rfl e8 h35 rfl Hi.out) rfl ⟨?_, ?_⟩
  · rw [HGL.out, HX3.out]; rfl
  · have B2 : Below w.heap.size w w2 := below_call hb1 hb1.size hb2
    have s2 := hb1.size
    have B4 : Below w.heap.size w w4 := (B2.trans (hO3.below _ hg1)).trans (hO4.below _ hg1)
    have B6 : Below w.heap.size w w6 := (below_call B4 B4.size hb5).trans (hO6.below _ hg1)
    exact B6.drew.trans (hO8.below _ (by omega))
end Go.Proofs.Ytcmokpacocgolaa.Rc
