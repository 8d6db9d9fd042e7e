/- The walk of the reference's double. -/
import Derived.Test.YtjhpffenlhfilaaWAt
namespace Go.Proofs.Ytjhpffenlhfilaa.Ch
open Go.RowKit Mem

/-- The columns' quarter rounds, the first i of them. -/
def cq (X : List W) : Nat → List W
  | 0 => X
  | i + 1 => at4 (cq X i) i (4 + i) (8 + i) (12 + i)
theorem cq_length (X : List W) (i : Nat) : (cq X i).length = X.length := by
  induction i with
  | zero => rfl
  | succ i ih => rw [cq, at4_length, ih]
theorem cq_dbl (X : List W) : at4 (at4 (at4 (at4 (cq X 4) 0 5 10 15) 1 6 11 12) 2 7 8 13) 3 4 9 14 = dbl X := rfl
theorem info16 (Y : List W) (h : Y.length = 16) : (Try.prog.info? 79).map (·.size) = some (w32s Y).length := by rw [size79, w32s_length, h]

set_option maxRecDepth 100000 in
set_option maxHeartbeats 2000000 in
theorem double_any (X : List W) (hX : X.length = 16) (w : World) :
    Calls Try.prog 69 #[.agg (w32s X).toArray] w fun e w' =>
      e = .returned (.agg (w32s (dbl X)).toArray) ∧ Below w.heap.size w w' := by
  obtain ⟨ti, hti, hz, hsz⟩ := row_of zero79
  have hz' : ti.zero = some (.agg Z16.toArray) := hz
  have h79 := Try.underlying79
  have hZi : (Try.prog.info? 79).map (·.size) = some Z16.length := by rw [size79, Z16_length]
  go_enter Try.func69, Try.ntmps69
  go_wp2_with (first
    | (refine wpList_box rfl 79 _ rfl _ (w32s X) rfl rfl ?_; intro gx w1 hgx hlt1 hX1 hb1; (try go_frame); have hX10 := hX1)
    | (refine wpList_alloc rfl 79 rfl ti _ Z16 hti hz' rfl ?_; intro gr w2 hgr hlt2 hR2 hb2; (try go_frame); have hX2 := hX10.call hb2; clear hX10))
  have b2 : Below w.heap.size w w2 := below_call hb1 hb1.size hb2
  have nxr : gr ≠ gx := by omega
  have lgx : w.heap.size ≤ gx := hgx
  have lgr : w.heap.size ≤ gr := by have := hb1.size; omega
  clear hX1 hb1 hb2 hti hz hz'
  have hX2' : B w2 gx 79 (w32s (cq X 0)) := hX2
  clear hX2
  go_loopw [3] (fun i wr => ∃ k : Nat, k ≤ 4 ∧ i = .int .i64 (k : Int) ∧ B wr gx 79 (w32s (cq X k)) ∧ B wr gr 79 Z16 ∧ Below w.heap.size w wr) (fun i _ => 4 - (intOf i).toNat)
  case atStart => exact ⟨0, Nat.zero_le _, rfl, hX2', hR2, b2⟩
  case round =>
    clear hX2' hR2 b2
    obtain ⟨k, hk, rfl, hB, hR, hbel⟩ := hrel
    by_cases hk4 : k < 4
    · have hk' : (k : Int) < 4 := by omega
      have hCl : (cq X k).length = 16 := by rw [cq_length, hX]
      have hat : ∀ w, Calls Try.prog 72 #[.agg (w32s (cq X k)).toArray, .int .i64 (k : Int), .int .i64 (4 + (k : Int)), .int .i64 (8 + (k : Int)), .int .i64 (12 + (k : Int))] w fun e w' =>
          e = .returned (.agg (w32s (cq X (k + 1))).toArray) ∧ Below w.heap.size w w' := fun w => by
        have h := at_any (cq X k) hCl k (4 + k) (8 + k) (12 + k) (by omega) (by omega) (by omega) (by omega) w
        rw [show ((4 + k : Nat) : Int) = 4 + (k : Int) by omega, show ((8 + k : Nat) : Int) = 8 + (k : Int) by omega, show ((12 + k : Nat) : Int) = 12 + (k : Int) by omega] at h
        exact h
      have hDl : (cq X (k + 1)).length = 16 := by rw [cq_length, hX]
      have IC := Lib.hid (info16 _ hCl)
      have ID := Lib.hid (info16 _ hDl)
      have oD := w32s_one (cq X (k + 1))
      have LCD := Lib.hid (show (w32s (cq X (k + 1))).length = (w32s (cq X k)).length by rw [w32s_length, w32s_length, hCl, hDl])
      clear hCl hDl
      go_wp2_with (first
        | (refine wpList_load_all rfl 79 _ rfl gx rfl hB h79 rfl IC.out ?_)
        | (go_at_call 72; refine (hat _).mono ?_; rintro e w5 ⟨rfl, hb5⟩; have hB5 := hB.call hb5; have hR5 := hR.call hb5; have e5 := below_call hbel hbel.size hb5)
        | (refine wpList_store_all rfl 79 _ _ rfl gx rfl hB5 (w32s (cq X (k + 1))) rfl LCD.out oD ID.out ?_; intro w6 hB6 hO6; (try go_frame)))
      go_roundw
      case rel => exact ⟨k + 1, by omega, by go_num, hB6, hR5.only hO6 nxr, e5.trans (hO6.below _ lgx)⟩
      case measure => simp [intOf]; omega
    · have hk' : (4 : Int) ≤ (k : Int) := by omega
      have hk4' : k = 4 := by omega
      rw [hk4'] at hB
      have HK := Lib.hid hk4'
      clear hk4'
      have hend := cq_dbl X
      have l0 : (cq X 4).length = 16 := by rw [cq_length, hX]
      generalize cq X 4 = C at hB hend l0
      have c1 := fun w => at_any C l0 0 5 10 15 (by omega) (by omega) (by omega) (by omega) w
      have l1 : (at4 C 0 5 10 15).length = 16 := by rw [at4_length, l0]
      generalize at4 C 0 5 10 15 = Y1 at hend c1 l1
      have c2 := fun w => at_any Y1 l1 1 6 11 12 (by omega) (by omega) (by omega) (by omega) w
      have l2 : (at4 Y1 1 6 11 12).length = 16 := by rw [at4_length, l1]
      generalize at4 Y1 1 6 11 12 = Y2 at hend c2 l2
      have c3 := fun w => at_any Y2 l2 2 7 8 13 (by omega) (by omega) (by omega) (by omega) w
      have l3 : (at4 Y2 2 7 8 13).length = 16 := by rw [at4_length, l2]
      generalize at4 Y2 2 7 8 13 = Y3 at hend c3 l3
      have c4 := fun w => at_any Y3 l3 3 4 9 14 (by omega) (by omega) (by omega) (by omega) w
      have l4 : (at4 Y3 3 4 9 14).length = 16 := by rw [at4_length, l3]
      generalize at4 Y3 3 4 9 14 = Y4 at hend c4 l4
      have HEND := Lib.hid hend
      have I0 := Lib.hid (info16 _ l0)
      have I1 := Lib.hid (info16 _ l1)
      have I2 := Lib.hid (info16 _ l2)
      have I3 := Lib.hid (info16 _ l3)
      have I4 := Lib.hid (info16 _ l4)
      have L1 := Lib.hid (show (w32s Y1).length = (w32s C).length by rw [w32s_length, w32s_length, l0, l1])
      have L2 := Lib.hid (show (w32s Y2).length = (w32s Y1).length by rw [w32s_length, w32s_length, l1, l2])
      have L3 := Lib.hid (show (w32s Y3).length = (w32s Y2).length by rw [w32s_length, w32s_length, l2, l3])
      have L4 := Lib.hid (show (w32s Y4).length = Z16.length by rw [w32s_length, l4, Z16_length])
      have o1 := w32s_one Y1
      have o2 := w32s_one Y2
      have o3 := w32s_one Y3
      have o4 := w32s_one Y4
      clear hend l0 l1 l2 l3 l4 hX hk4
      go_wp2_with (first
        | (refine wpList_load_all rfl 79 _ rfl gx rfl hB h79 rfl I0.out ?_)
        | (go_at_call 72; with_reducible refine Calls.mono (c1 _) ?_; rintro e v1 ⟨rfl, hb1⟩; have hB1 := hB.call hb1; have hR1 := hR.call hb1; have e1 := below_call hbel hbel.size hb1)
        | (refine wpList_store_all rfl 79 _ _ rfl gx rfl hB1 (w32s Y1) rfl L1.out o1 I1.out ?_; intro u1 hC1 hO1; (try go_frame); have hS1 := hR1.only hO1 nxr; have d1 := e1.trans (hO1.below _ lgx))
        | (refine wpList_load_all rfl 79 _ rfl gx rfl hC1 h79 rfl I1.out ?_)
        | (go_at_call 72; with_reducible refine Calls.mono (c2 _) ?_; rintro e v2 ⟨rfl, hb2⟩; have hB2 := hC1.call hb2; have hR2 := hS1.call hb2; have e2 := below_call d1 d1.size hb2)
        | (refine wpList_store_all rfl 79 _ _ rfl gx rfl hB2 (w32s Y2) rfl L2.out o2 I2.out ?_; intro u2 hC2 hO2; (try go_frame); have hS2 := hR2.only hO2 nxr; have d2 := e2.trans (hO2.below _ lgx))
        | (refine wpList_load_all rfl 79 _ rfl gx rfl hC2 h79 rfl I2.out ?_)
        | (go_at_call 72; with_reducible refine Calls.mono (c3 _) ?_; rintro e v3 ⟨rfl, hb3⟩; have hB3 := hC2.call hb3; have hR3 := hS2.call hb3; have e3 := below_call d2 d2.size hb3)
        | (refine wpList_store_all rfl 79 _ _ rfl gx rfl hB3 (w32s Y3) rfl L3.out o3 I3.out ?_; intro u3 hC3 hO3; (try go_frame); have hS3 := hR3.only hO3 nxr; have d3 := e3.trans (hO3.below _ lgx))
        | (refine wpList_load_all rfl 79 _ rfl gx rfl hC3 h79 rfl I3.out ?_)
        | (go_at_call 72; with_reducible refine Calls.mono (c4 _) ?_; rintro e v4 ⟨rfl, hb4⟩; have hR4 := hS3.call hb4; have e4 := below_call d3 d3.size hb4)
        | (refine wpList_store_all rfl 79 _ _ rfl gr rfl hR4 (w32s Y4) rfl L4.out o4 I4.out ?_; intro u4 hC4 hO4; (try go_frame); have d4 := e4.trans (hO4.below _ lgr)))
      exact bodyPost_ret (results_block rfl _ _ gr 79 _ _ rfl hC4 h79 rfl I4.out) rfl ⟨(by rw [HEND.out]), d4⟩
end Go.Proofs.Ytjhpffenlhfilaa.Ch
