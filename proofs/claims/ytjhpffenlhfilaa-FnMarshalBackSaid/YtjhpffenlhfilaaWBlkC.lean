/- The contract of the package's block_generic as one sentence, and the walks of its callers ZZBlock, block, and the thin package's Block. -/
import Derived.Test.YtjhpffenlhfilaaWSetSpec
namespace Go.Proofs.Ytjhpffenlhfilaa.Ch
open Go.RowKit Mem

theorem zero33' : (Try.prog.info? 33).map (fun i => (i.zero, i.size)) = some (some (.agg (u64s (List.replicate 32 0)).toArray), 32) := by kernel_rfl
theorem size33' : (Try.prog.info? 33).map (·.size) = some 32 := by kernel_rfl
theorem info32' (Y : List V) (h : Y.length = 32) : (Try.prog.info? 33).map (·.size) = some (u64s Y).length := by rw [size33', u64s_length, h]

/-- What block_generic does: it fills 32 cells. -/
def BlockC : Prop := ∀ (gs os gd : Nat) (T : TypeId) (l : List Value) (s0 s1 s2 s3 : V) (c : W) (w : World), gs < w.heap.size → 32 ≤ l.length →
    w.cell? ⟨gs, os, none⟩ = some (.int .u64 (n64 s0)) → w.cell? ⟨gs, os + 1, none⟩ = some (.int .u64 (n64 s1)) → w.cell? ⟨gs, os + 2, none⟩ = some (.int .u64 (n64 s2)) → w.cell? ⟨gs, os + 3, none⟩ = some (.int .u64 (n64 s3)) →
    B w gd T l →
    Calls Try.prog 68 #[.pointer (some ⟨gs, os, none⟩), .pointer (some ⟨gd, 0, none⟩), .int .u32 (n32 c)] w fun e w' =>
      e = .returned (.tuple #[]) ∧ B w' gd T (u64s (blockL s0 s1 s2 s3 c) ++ l.drop 32) ∧ Past gd w w'

set_option maxRecDepth 100000 in
set_option maxHeartbeats 1000000 in
theorem pubBlock_any (hb : BlockC) (gs os gd : Nat) (T : TypeId) (l : List Value) (s0 s1 s2 s3 : V) (c : W) (w : World) (hlt : gs < w.heap.size) (hl : 32 ≤ l.length)
    (q0 : w.cell? ⟨gs, os, none⟩ = some (.int .u64 (n64 s0))) (q1 : w.cell? ⟨gs, os + 1, none⟩ = some (.int .u64 (n64 s1))) (q2 : w.cell? ⟨gs, os + 2, none⟩ = some (.int .u64 (n64 s2))) (q3 : w.cell? ⟨gs, os + 3, none⟩ = some (.int .u64 (n64 s3)))
    (hD : B w gd T l) :
    Calls Try.prog 61 #[.pointer (some ⟨gs, os, none⟩), .pointer (some ⟨gd, 0, none⟩), .int .u32 (n32 c)] w fun e w' =>
      e = .returned (.tuple #[]) ∧ B w' gd T (u64s (blockL s0 s1 s2 s3 c) ++ l.drop 32) ∧ Past gd w w' := by
  have hc := hb gs os gd T l s0 s1 s2 s3 c w hlt hl q0 q1 q2 q3 hD
  go_enter Try.func61, Try.ntmps61
  go_wp2_with (go_at_call 68; refine hc.mono ?_; rintro e w3 ⟨rfl, hB3, hp3⟩)
  go_end0
  exact ⟨rfl, hB3, hp3⟩

set_option maxRecDepth 100000 in
set_option maxHeartbeats 1000000 in
theorem zzblock_any (hb : BlockC) (s0 s1 s2 s3 : V) (c : W) (w : World) :
    Calls Try.prog 52 #[.agg (u64s [s0, s1, s2, s3]).toArray, .int .u32 (n32 c)] w fun e w' =>
      e = .returned (.agg (u64s (blockL s0 s1 s2 s3 c)).toArray) ∧ Below w.heap.size w w' := by
  obtain ⟨ti, hti, hz, hsz⟩ := row_of zero33'
  have hz' : ti.zero = some (.agg Z32.toArray) := hz
  have hi := info32' _ (blockL_length s0 s1 s2 s3 c)
  have h1 := u64s_one (blockL s0 s1 s2 s3 c)
  have h33 := Try.underlying33
  have HI := Lib.hid hi
  clear hi
  go_enter Try.func52, Try.ntmps52
  go_wp2_with (first
    | (refine wpList_box rfl 30 _ rfl _ (u64s [s0, s1, s2, s3]) rfl rfl ?_; intro gs w1 hgs hlt1 hS1 hb1; (try go_frame))
    | (refine wpList_alloc rfl 33 rfl ti _ Z32 hti hz' rfl ?_; intro gb w2 hgb hlt2 hB2 hb2; (try go_frame)))
  have hS2 := hS1.call hb2
  refine (hb gs 0 gb 33 Z32 s0 s1 s2 s3 c w2 hS2.lt (by rw [Z32_length]; omega) (hS2.cell 0) (hS2.cell 1) (hS2.cell 2) (hS2.cell 3) hB2).mono ?_
  rintro e w3 ⟨rfl, hB3, hp3⟩
  have s1' := hb1.size
  have B3 : Below w.heap.size w w3 := below_past (below_call hb1 s1' hb2) (by omega) (by have := hb2.size; omega) hp3
  have hB3' : B w3 gb 33 (u64s (blockL s0 s1 s2 s3 c)) := by
    rw [List.drop_of_length_le (by rw [Z32_length]; omega), List.append_nil] at hB3
    exact hB3
  clear hB3
  generalize hg : u64s (blockL s0 s1 s2 s3 c) = R at hB3' HI h1
  have HG := Lib.hid hg
  clear hg
  go_wp2_with (first
    | (refine wpList_load_all rfl 33 _ rfl gb rfl hB3' h33 rfl HI.out ?_)
    | (refine wpList_store_all rfl 33 _ _ rfl gb rfl hB3' R rfl rfl h1 HI.out ?_; intro w4 hB4 hO4; (try go_frame)))
  exact bodyPost_ret (results_block rfl _ _ gb 33 R _ rfl hB4 h33 rfl HI.out) rfl ⟨(by rw [HG.out]), B3.trans (hO4.below _ (by omega))⟩

set_option maxRecDepth 100000 in
set_option maxHeartbeats 1000000 in
theorem implBlock_any (hb : BlockC) (s0 s1 s2 s3 : V) (c : W) (w : World) :
    Calls Try.prog 32 #[.agg (u64s [s0, s1, s2, s3]).toArray, .int .u32 (n32 c)] w fun e w' =>
      e = .returned (.agg (u64s (blockL s0 s1 s2 s3 c)).toArray) ∧ Below w.heap.size w w' := by
  obtain ⟨ti, hti, hz, hsz⟩ := row_of zero33'
  have hz' : ti.zero = some (.agg Z32.toArray) := hz
  have hzz := fun w => zzblock_any hb s0 s1 s2 s3 c w
  have hi := info32' _ (blockL_length s0 s1 s2 s3 c)
  have hR : (u64s (blockL s0 s1 s2 s3 c)).length = Z32.length := by rw [u64s_length, blockL_length, Z32_length]
  have h1 := u64s_one (blockL s0 s1 s2 s3 c)
  have h33 := Try.underlying33
  have HI := Lib.hid hi
  have HR := Lib.hid hR
  clear hi hR
  generalize u64s (blockL s0 s1 s2 s3 c) = R at HI h1 HR hzz ⊢
  go_enter Try.func32, Try.ntmps32
  go_wp2_with (first
    | (refine wpList_box rfl 30 _ rfl _ (u64s [s0, s1, s2, s3]) rfl rfl ?_; intro gs w1 hgs hlt1 hS1 hb1; (try go_frame))
    | (refine wpList_alloc rfl 33 rfl ti _ Z32 hti hz' rfl ?_; intro gb w2 hgb hlt2 hB2 hb2; (try go_frame); have hS2 := hS1.call hb2)
    | (refine wpList_load_all rfl 30 _ rfl gs rfl hS2 Try.underlying30 rfl (by kernel_rfl) ?_)
    | (go_at_call 52; refine (hzz _).mono ?_; rintro e w3 ⟨rfl, hb3⟩; have hB3 := hB2.call hb3)
    | (refine wpList_store_all rfl 33 _ _ rfl gb rfl hB3 R rfl HR.out h1 HI.out ?_; intro w4 hB4 hO4; (try go_frame)))
  have s1' := hb1.size
  have B3 : Below w.heap.size w w3 := below_call (below_call hb1 s1' hb2) (by have := hb2.size; omega) hb3
  exact bodyPost_ret (results_block rfl _ _ gb 33 R _ rfl hB4 h33 rfl HI.out) rfl ⟨rfl, B3.trans (hO4.below _ (by omega))⟩
end Go.Proofs.Ytjhpffenlhfilaa.Ch
