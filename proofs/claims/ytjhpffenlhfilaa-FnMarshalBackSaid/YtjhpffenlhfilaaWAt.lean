/- The walks of the reference's at and double. -/
import Derived.Test.YtjhpffenlhfilaaWMatrix
import Derived.Test.YtjhpffenlhfilaaWQr
import Derived.Test.YtjhpffenlhfilaaHub
import Derived.StillTailTactics
namespace Go.Proofs.Ytjhpffenlhfilaa.Ch
open Go.RowKit Mem

set_option maxRecDepth 100000 in
set_option maxHeartbeats 2000000 in
theorem at_any (X : List W) (hX : X.length = 16) (a b c d : Nat) (ha : a < 16) (hb : b < 16) (hc : c < 16) (hd : d < 16) (w : World) :
    Calls Try.prog 72 #[.agg (w32s X).toArray, .int .i64 (a : Int), .int .i64 (b : Int), .int .i64 (c : Int), .int .i64 (d : Int)] w fun e w' =>
      e = .returned (.agg (w32s (at4 X a b c d)).toArray) ∧ Below w.heap.size w w' := by
  obtain ⟨ti, hti, hz, hsz⟩ := row_of zero79
  have hz' : ti.zero = some (.agg Z16.toArray) := hz
  have h79 := Try.underlying79
  have ha' : (a : Int) < 16 := by omega
  have hb' : (b : Int) < 16 := by omega
  have hc' : (c : Int) < 16 := by omega
  have hd' : (d : Int) < 16 := by omega
  go_enter Try.func72, Try.ntmps72
  go_wp2_with (first
    | (refine wpList_box rfl 79 _ rfl _ (w32s X) rfl rfl ?_; intro gx w1 hgx hlt1 hX1 hb1; (try go_frame); have hX10 := hX1)
    | (refine wpList_alloc rfl 79 rfl ti _ Z16 hti hz' rfl ?_; intro gr w2 hgr hlt2 hR2 hb2; (try go_frame); have hX2 := hX10.call hb2; clear hX10))
  have b2 : Below w.heap.size w w2 := below_call hb1 hb1.size hb2
  have f1 : w2.cell? ⟨gx, a, none⟩ = some (.int .u32 (n32 (X.getD a 0))) := (hX2.cell a).trans (w32s_get X a (by omega))
  have f2 : w2.cell? ⟨gx, b, none⟩ = some (.int .u32 (n32 (X.getD b 0))) := (hX2.cell b).trans (w32s_get X b (by omega))
  have f3 : w2.cell? ⟨gx, c, none⟩ = some (.int .u32 (n32 (X.getD c 0))) := (hX2.cell c).trans (w32s_get X c (by omega))
  have f4 : w2.cell? ⟨gx, d, none⟩ = some (.int .u32 (n32 (X.getD d 0))) := (hX2.cell d).trans (w32s_get X d (by omega))
  have z1 := hX2.frozen a
  have z2 := hX2.frozen b
  have z3 := hX2.frozen c
  have z4 := hX2.frozen d
  have hat : ((((w32s X).set a (.int .u32 (n32 (qr (X.getD a 0) (X.getD b 0) (X.getD c 0) (X.getD d 0)).1))).set b (.int .u32 (n32 (qr (X.getD a 0) (X.getD b 0) (X.getD c 0) (X.getD d 0)).2.1))).set c (.int .u32 (n32 (qr (X.getD a 0) (X.getD b 0) (X.getD c 0) (X.getD d 0)).2.2.1))).set d (.int .u32 (n32 (qr (X.getD a 0) (X.getD b 0) (X.getD c 0) (X.getD d 0)).2.2.2)) = w32s (at4 X a b c d) := by
    rw [w32s_set, w32s_set, w32s_set, w32s_set]; rfl
  have HAT := Lib.hid hat
  clear hat hti hz hz'
  generalize X.getD a 0 = xa at f1 HAT
  generalize X.getD b 0 = xb at f2 HAT
  generalize X.getD c 0 = xc at f3 HAT
  generalize X.getD d 0 = xd at f4 HAT
  refine wp_region_hub 4 17 4 (by kernel_rfl) (by kernel_rfl) (fun _ _ d _ _ h => by cases d <;> exact h) ?_
  simp only [List.take_succ_cons, List.take_zero, List.drop_succ_cons, List.drop_zero]
  iterate 4
    refine ⟨?_, Or.inl ⟨by rfl, ?_⟩, ?_⟩
    rotate_left
    · intro w; go_simp; try with_reducible rfl
  change wpQuiet _ _ _ _ _ _
  repeat quiet_step (first | (go_at_call 21; exact Calls.quiet_of ((quarter_any _ _ _ _ _).mono (fun _ _ ⟨he, m, hm⟩ => ⟨he, m, hm.symm⟩))))
  refine wpQuiet_nil ?_
  iterate 4
    refine ⟨?_, Or.inl ⟨by rfl, ?_⟩, ?_⟩
    rotate_left
    · intro w; go_simp; try with_reducible rfl
  intro m
  have hX3 := hX2.drewN m
  have hR3 := hR2.drewN m
  have b3 : Below w.heap.size w (w2.drewN m) := below_drewN b2 m
  have hXl : (w32s X).length = 16 := by rw [w32s_length, hX]
  have hYl : (w32s (at4 X a b c d)).length = 16 := by rw [w32s_length, at4_length, hX]
  have hYo := w32s_one (at4 X a b c d)
  clear hX1 hb1 hX2 hR2 hb2 b2 z1 z2 z3 z4 f1 f2 f3 f4
  generalize w2.drewN m = v at hX3 hR3 b3 ⊢
  have HXL := Lib.hid hXl
  have hYi : (Try.prog.info? 79).map (·.size) = some (w32s (at4 X a b c d)).length := by rw [size79, hYl]
  have HYI := Lib.hid hYi
  have HYL := Lib.hid (hYl.trans Z16_length.symm)
  have nxr : gr ≠ gx := by omega
  have lgx : w.heap.size ≤ gx := hgx
  have lgr : w.heap.size ≤ gr := by omega
  clear hYi hYl hXl hX
  generalize hRes : w32s (at4 X a b c d) = Y at HAT HYI hYo HYL
  have HRES := Lib.hid hRes
  clear hRes
  generalize w32s X = L at hX3 HXL HAT
  go_wp2_with (first
    | (refine wpList_store_one rfl 22 _ _ rfl gx a rfl hX3 (.int .u32 (n32 (qr xa xb xc xd).1)) rfl (by rw [HXL.out]; omega) rfl (by kernel_rfl) ?_; intro w4 hX4 hO4; (try go_frame))
    | (refine wpList_store_one rfl 22 _ _ rfl gx b rfl hX4 (.int .u32 (n32 (qr xa xb xc xd).2.1)) rfl (by rw [List.length_set, HXL.out]; omega) rfl (by kernel_rfl) ?_; intro w5 hX5 hO5; (try go_frame))
    | (refine wpList_store_one rfl 22 _ _ rfl gx c rfl hX5 (.int .u32 (n32 (qr xa xb xc xd).2.2.1)) rfl (by rw [List.length_set, List.length_set, HXL.out]; omega) rfl (by kernel_rfl) ?_; intro w6 hX6 hO6; (try go_frame))
    | (refine wpList_store_one rfl 22 _ _ rfl gx d rfl hX6 (.int .u32 (n32 (qr xa xb xc xd).2.2.2)) rfl (by rw [List.length_set, List.length_set, List.length_set, HXL.out]; omega) rfl (by kernel_rfl) ?_; intro w7 hX7 hO7; (try go_frame); have hX8 : B w7 gx 79 Y := (by rw [← HAT.out]; exact hX7); have hR8 := (((hR3.only hO4 nxr).only hO5 nxr).only hO6 nxr).only hO7 nxr)
    | (refine wpList_load_all rfl 79 _ rfl gx rfl hX8 h79 rfl HYI.out ?_)
    | (refine wpList_store_all rfl 79 _ _ rfl gr rfl hR8 Y rfl HYL.out hYo HYI.out ?_; intro w9 hR9 hO9; (try go_frame)))
  exact bodyPost_ret (results_block rfl _ _ gr 79 _ _ rfl hR9 h79 rfl HYI.out) rfl ⟨(by rw [HRES.out]), ((((b3.trans (hO4.below _ lgx)).trans (hO5.below _ lgx)).trans (hO6.below _ lgx)).trans (hO7.below _ lgx)).trans (hO9.below _ lgr)⟩
end Go.Proofs.Ytjhpffenlhfilaa.Ch
