/- The walk of the reference's exchange of two places. -/
import Derived.Test.YtcmokpacocgolaaWNum
namespace Go.Proofs.Ytcmokpacocgolaa.Rc
open Go.RowKit Mem

set_option maxHeartbeats 400000 in
theorem swapped_any (S : List Nat) (i j : Nat) (hS : S.length = 256) (hi : i < 256) (hj : j < 256) (w : World) :
    Calls Try.prog 32 #[.agg (u32s S).toArray, .int .i64 (i : Int), .int .i64 (j : Int)] w fun e w' =>
      e = .returned (.agg (u32s (swap S i j)).toArray) ∧ Below w.heap.size w w' := by
  obtain ⟨ti, hti, hz, hsz⟩ := row24
  go_enter Try.func32, Try.ntmps32
  go_wp2_with (first
    | (refine wpList_box rfl 24 _ rfl _ (u32s S) rfl rfl ?_; intro g1 w1 hg1 hlt1 hB1 hb1)
    | (refine wpList_alloc rfl 24 rfl ti _ (u32s zeros) hti hz rfl ?_; intro g2 w2 hg2 hlt2 hB2 hb2))
  have hB := hB1.call hb2
  have c1 : w2.cell? ⟨g1, i, none⟩ = some (.int .u32 (S.getD i 0 : Nat)) := by rw [hB.cell, u32s_get _ _ (by omega)]
  have c2 : w2.cell? ⟨g1, j, none⟩ = some (.int .u32 (S.getD j 0 : Nat)) := by rw [hB.cell, u32s_get _ _ (by omega)]
  have f1 := hB.frozen i
  have f2 := hB.frozen j
  have c3 : (w2.setCell ⟨g1, i, none⟩ (.int .u32 (S.getD j 0 : Nat))).cell? ⟨g1, j, none⟩ = some (.int .u32 ((S.set i (S.getD j 0)).getD j 0 : Nat)) := by
    rw [(hB.set_ i _).cell, u32s_set, u32s_get _ _ (by simp; omega)]
  have hB3 : B ((w2.setCell ⟨g1, i, none⟩ (.int .u32 (S.getD j 0 : Nat))).setCell ⟨g1, j, none⟩ (.int .u32 (S.getD i 0 : Nat))).drew g1 24 (u32s (swap S i j)) := by
    unfold swap
    rw [← u32s_set, ← u32s_set]
    exact ((hB.set_ i _).set_ j _).drew
  have i1 : (i : Int) < 256 := by omega
  have j1 : (j : Int) < 256 := by omega
  generalize S.getD i 0 = x at *
  generalize S.getD j 0 = y at *
  generalize (S.set i y).getD j 0 = z at *
  go_frame
  go_region
  have hO3 : Only g1 w2 ((w2.setCell ⟨g1, i, none⟩ (.int .u32 (y : Int))).setCell ⟨g1, j, none⟩ (.int .u32 (x : Int))).drew := ((Only.setCell g1 i _ w2).trans (Only.setCell g1 j _ _)).drewN 1
  have hl3 : (u32s (swap S i j)).length = 256 := by rw [u32s_length, swap_length, hS]
  have h1 := u32s_one (swap S i j)
  clear c1 c2 c3
  generalize ((w2.setCell ⟨g1, i, none⟩ (.int .u32 (y : Int))).setCell ⟨g1, j, none⟩ (.int .u32 (x : Int))).drew = w3 at *
  have hne : g2 ≠ g1 := by omega
  have hB4 : B w3 g2 24 (u32s zeros) := hB2.only hO3 hne
  have hs : (Try.prog.info? 24).map (·.size) = some (u32s (swap S i j)).length := by rw [size24, hl3]
  have hz2 : (u32s zeros).length = 256 := by rw [u32s_length, zeros_length]
  have HS := Lib.hid hs
  have HZ := Lib.hid hz2
  have HL := Lib.hid hl3
  clear hs hz2 hl3 hti hz hsz
  go_wp2_with (first
    | (refine wpList_load_all rfl 24 _ rfl g1 rfl hB3 Try.underlying24 rfl HS.out ?_)
    | (refine wpList_store_all rfl 24 _ _ rfl g2 rfl hB4 (u32s (swap S i j)) rfl (by rw [HZ.out, HL.out]) h1 HS.out ?_; intro w5 hB5 hO5))
  refine bodyPost_ret (results_block rfl _ w5 g2 24 (u32s (swap S i j)) _ rfl hB5 Try.underlying24 rfl HS.out) rfl ⟨rfl, ?_⟩
  have B2 : Below w.heap.size w w2 := below_call hb1 hb1.size hb2
  exact (B2.trans (hO3.below _ hg1)).trans (hO5.below _ (by have := hb1.size; omega))
/-- The same, the places as they stand at a call. -/
theorem swapped_int (S : List Nat) (i j : Int) (hS : S.length = 256) (hi : 0 ≤ i ∧ i < 256) (hj : 0 ≤ j ∧ j < 256) (w : World) :
    Calls Try.prog 32 #[.agg (u32s S).toArray, .int .i64 i, .int .i64 j] w fun e w' =>
      e = .returned (.agg (u32s (swap S i.toNat j.toNat)).toArray) ∧ Below w.heap.size w w' := by
  have h := swapped_any S i.toNat j.toNat hS (by omega) (by omega) w
  have e1 : ((i.toNat : Nat) : Int) = i := by omega
  have e2 : ((j.toNat : Nat) : Int) = j := by omega
  rw [e1, e2] at h
  exact h
end Go.Proofs.Ytcmokpacocgolaa.Rc
