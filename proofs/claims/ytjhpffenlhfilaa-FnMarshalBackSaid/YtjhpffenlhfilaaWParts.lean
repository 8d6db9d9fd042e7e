/- The walks of ZZState, partsOf, and the thin package's Init64. -/
import Derived.Test.YtjhpffenlhfilaaWSt
import Derived.Test.YtjhpffenlhfilaaHeld
namespace Go.Proofs.Ytjhpffenlhfilaa.Ch
open Go.RowKit Mem

section
variable {P : Program}
theorem results_block2_tmps3 {fn : Func} {p p' q q' q'' : Tmp} {ty ty' : TypeId} (h : fn.results = #[.cell p ty, .cell p' ty', .tmp q, .tmp q', .tmp q'']) (tmps : Array Value) (w : World) (g : Nat) (t : TypeId) (l : List Value) (d : TypeDesc)
    (g' : Nat) (t' : TypeId) (l' : List Value) (d' : TypeDesc)
    (hp : tmps.getD p undef = .pointer (some ⟨g, 0, none⟩)) (hg : B w g t l) (hu : P.underlying ty = some d) (hd : d.isRow = true) (hi : (P.info? ty).map (·.size) = some l.length)
    (hp2 : tmps.getD p' undef = .pointer (some ⟨g', 0, none⟩)) (hg' : B w g' t' l') (hu' : P.underlying ty' = some d') (hd' : d'.isRow = true) (hi' : (P.info? ty').map (·.size) = some l'.length) :
    (results fn tmps).run P w = .ok (.tuple #[.agg l.toArray, .agg l'.toArray, tmps.getD q undef, tmps.getD q' undef, tmps.getD q'' undef]) w := by
  have hp1 : tmps[p]?.getD undef = .pointer (some ⟨g, 0, none⟩) := by simpa using hp
  have hp3 : tmps[p']?.getD undef = .pointer (some ⟨g', 0, none⟩) := by simpa using hp2
  have hl := run_loadVar_row (P := P) w g t ty l.toArray (0, 0) d hg hu (by cases d <;> simp_all) (by simpa using hi)
  have hl' := run_loadVar_row (P := P) w g' t' ty' l'.toArray (0, 0) d' hg' hu' (by cases d' <;> simp_all) (by simpa using hi')
  simp [results, h, hp1, hp3, asAddr, hl, hl']
end

theorem zero30 : (Try.prog.info? 30).map (fun i => (i.zero, i.size)) = some (some (.agg (u64s (List.replicate 4 0)).toArray), 4) := by kernel_rfl
def Z4 : List Value := u64s (List.replicate 4 0)
def seedL (x : G) : List Value := u64s [x.s0, x.s1, x.s2, x.s3]

set_option maxRecDepth 100000 in
set_option maxHeartbeats 2000000 in
theorem zzstate_any (g : Nat) (x : G) (w : World) (hB : B w g 68 x.cells) :
    Calls Try.prog 66 #[.pointer (some ⟨g, 0, none⟩)] w fun e w' =>
      e = .returned (.tuple #[.agg (seedL x).toArray, .agg (u64s x.buf).toArray, .int .u32 (x.i : Int), .int .u32 (x.n : Int), .int .u32 ((4 * x.g : Nat) : Int)]) ∧ Below w.heap.size w w' := by
  obtain ⟨ti, hti, hz, hsz⟩ := row_of zero30
  have hz' : ti.zero = some (.agg Z4.toArray) := hz
  obtain ⟨tj, htj, hy, _⟩ := row_of zero33'
  have hy' : tj.zero = some (.agg Z32.toArray) := hy
  have h33 := Try.underlying33
  have h30 := Try.underlying30
  have hbl := x.bufs_length
  have i33 := info32' _ x.buf_length
  have hseed : (x.cells.drop 32).take 4 = seedL x := st_take_seed hbl _ _ _ _ _ _ _
  have hbuf : x.cells.take 32 = u64s x.buf := st_take_buf hbl _ _ _ _ _ _ _
  have g36 : x.cells[36]? = some (.int .u32 (x.i : Int)) := st_get36 hbl _ _ _ _ _ _ _
  have g37 : x.cells[37]? = some (.int .u32 (x.n : Int)) := st_get37 hbl _ _ _ _ _ _ _
  have g38 : x.cells[38]? = some (.int .u32 ((4 * x.g : Nat) : Int)) := st_get38 hbl _ _ _ _ _ _ _
  have hso := u64s_one [x.s0, x.s1, x.s2, x.s3]
  have hbo := u64s_one x.buf
  have hsl : (seedL x).length = 4 := rfl
  have is : (Try.prog.info? 30).map (·.size) = some (seedL x).length := by kernel_rfl
  go_enter Try.func66, Try.ntmps66
  go_wp2_with (first
    | (refine wpList_alloc rfl 30 rfl ti _ Z4 hti hz' rfl ?_; intro g2 w2 hg2 hlt2 hS2 hb2; (try go_frame); have hB2 := hB.call hb2)
    | (refine wpList_alloc rfl 33 rfl tj _ Z32 htj hy' rfl ?_; intro g3 w3 hg3 hlt3 hT3 hb3; (try go_frame); have hS3 := hS2.call hb3; have hB3 := hB2.call hb3))
  have b3 := below_call hb2 hb2.size hb3
  have n2 : g ≠ g2 := by have := hB.lt; omega
  have n3 : g ≠ g3 := by have := hB2.lt; omega
  have n23 : g2 ≠ g3 := by omega
  have l2 : w.heap.size ≤ g2 := hg2
  have l3 : w.heap.size ≤ g3 := by omega
  refine wp_region_first (fun w => B w g 68 x.cells) 20 (by kernel_rfl) (by kernel_rfl) (fun _ _ d _ _ h => by cases d <;> exact h) hB3.drew ?_
  simp only [List.take_succ_cons, List.take_zero, List.drop_succ_cons, List.drop_zero]
  iterate 3
    refine ⟨?_, Or.inl ⟨by rfl, ?_⟩, ?_⟩
    rotate_left
    · intro w hw; go_simp; try with_reducible rfl
    simp only [Act.put, List.setIfInBounds_toArray, List.set_cons_zero, List.set_cons_succ]
  refine ⟨_, yieldsIf_load_part rfl 30 _ rfl g 32 rfl (fun w h => h) (seedL x) hseed h30 rfl is, ?_⟩
  simp only [Act.put, List.setIfInBounds_toArray, List.set_cons_zero, List.set_cons_succ]
  iterate 3
    refine ⟨?_, Or.inl ⟨by rfl, ?_⟩, ?_⟩
    rotate_left
    · intro w hw; go_simp; try with_reducible rfl
    simp only [Act.put, List.setIfInBounds_toArray, List.set_cons_zero, List.set_cons_succ]
  refine ⟨_, yieldsIf_load_part rfl 33 _ rfl g 0 rfl (fun w h => h) (u64s x.buf) (by rw [List.drop_zero, hbl]; exact hbuf) h33 rfl i33, ?_⟩
  simp only [Act.put, List.setIfInBounds_toArray, List.set_cons_zero, List.set_cons_succ]
  iterate 3
    refine ⟨?_, Or.inl ⟨by rfl, ?_⟩, ?_⟩
    rotate_left
    · intro w hw; go_simp; try with_reducible rfl
    simp only [Act.put, List.setIfInBounds_toArray, List.set_cons_zero, List.set_cons_succ]
  refine ⟨?_, Or.inl ⟨by rfl, ?_⟩, ?_⟩
  rotate_left
  · intro w hw; have f := (B.cell hw 36).trans g36; go_simp; try with_reducible rfl
  simp only [Act.put, List.setIfInBounds_toArray, List.set_cons_zero, List.set_cons_succ]
  iterate 3
    refine ⟨?_, Or.inl ⟨by rfl, ?_⟩, ?_⟩
    rotate_left
    · intro w hw; go_simp; try with_reducible rfl
    simp only [Act.put, List.setIfInBounds_toArray, List.set_cons_zero, List.set_cons_succ]
  refine ⟨?_, Or.inl ⟨by rfl, ?_⟩, ?_⟩
  rotate_left
  · intro w hw; have f := (B.cell hw 37).trans g37; go_simp; try with_reducible rfl
  simp only [Act.put, List.setIfInBounds_toArray, List.set_cons_zero, List.set_cons_succ]
  iterate 3
    refine ⟨?_, Or.inl ⟨by rfl, ?_⟩, ?_⟩
    rotate_left
    · intro w hw; go_simp; try with_reducible rfl
    simp only [Act.put, List.setIfInBounds_toArray, List.set_cons_zero, List.set_cons_succ]
  refine ⟨?_, Or.inl ⟨by rfl, ?_⟩, ?_⟩
  rotate_left
  · intro w hw; have f := (B.cell hw 38).trans g38; go_simp; try with_reducible rfl
  simp only [Act.put, List.setIfInBounds_toArray, List.set_cons_zero, List.set_cons_succ]
  refine wpFirst_nil ?_
  refine wpThen_step (fun K hK => ?_)
  refine step_store_all rfl 30 _ _ rfl g2 rfl hS3.drew (seedL x) rfl rfl hso is ?_
  intro w4 hS4 hO4
  have hB4 := hB3.drew.only hO4 n2
  have hT4 := hT3.drew.only hO4 n23.symm
  refine hK _ _ hB4 ?_
  clear hK K
  refine wpThen_step (fun K hK => ?_)
  refine step_store_all rfl 33 _ _ rfl g3 rfl hT4 (u64s x.buf) rfl hbl hbo i33 ?_
  intro w5 hT5 hO5
  have hB5 := hB4.only hO5 n3
  have hS5 := hS4.only hO5 n23
  refine hK _ _ hB5 ?_
  clear hK K
  iterate 3
    refine wpThen_step (fun K hK => ?_)
    go_simp
    refine hK _ _ hB5 ?_
    clear hK K
  refine wpThen_nil ?_
  go_wp2
  have b5 : Below w.heap.size w w5 := ((below_drewN b3 1).trans (hO4.below _ l2)).trans (hO5.below _ l3)
  exact bodyPost_ret (results_block2_tmps3 rfl _ _ g2 30 (seedL x) _ g3 33 (u64s x.buf) _ rfl hS5 h30 rfl is rfl hT5 h33 rfl i33) rfl ⟨rfl, b5⟩
end Go.Proofs.Ytjhpffenlhfilaa.Ch
