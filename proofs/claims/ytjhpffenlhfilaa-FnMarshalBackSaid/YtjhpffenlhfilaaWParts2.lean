/- The walks of partsOf, the thin package's Init64, the reference's start and Start. -/
import Derived.Test.YtjhpffenlhfilaaWParts
import Derived.Test.YtjhpffenlhfilaaWSBlock4
import Derived.Laws.Tables
namespace Go.Proofs.Ytjhpffenlhfilaa.Ch
open Go.RowKit Mem

section
variable {P : Program} {ops : Array Oper} {rest : List Oper} {o : Oper} {a : Act} {w : World} {Q : Exit → Act → World → Prop} {K : Act → World → Prop} {E : Prop}
theorem wp_build_at (t : TypeId) (parts : Array (Nat × Operand)) (ho : o.op = .build t parts) (vals : List (Nat × Value)) (hv : parts.toList.map (fun (i, x) => (i, a.eval x)) = vals) (cells : List Value) (hb : P.built t vals = some cells.toArray)
    (h : K (a.put o.dst (.agg cells.toArray)) w) : o.wp P a w K Q := by
  have hc : P.built t (parts.map fun (i, x) => (i, a.eval x)).toList = some cells.toArray := by rw [Array.toList_map, hv]; exact hb
  unfold Oper.wp execOp
  simp only [ho, Sem.run_bind, run_build w t _ cells.toArray hc, Result.andThen_ok]
  exact h
theorem step_build (hgd : o.guard = none) (t : TypeId) (parts : Array (Nat × Operand)) (ho : o.op = .build t parts) (vals : List (Nat × Value)) (hv : parts.toList.map (fun (i, x) => (i, a.eval x)) = vals) (cells : List Value) (hb : P.built t vals = some cells.toArray)
    (h : K (a.put o.dst (.agg cells.toArray)) w) : if Region.wanted o (yielded ops a.tmps) = true then Oper.wp P o a w K Q else E := by
  rw [if_pos (by simp [Region.wanted, hgd])]
  exact wp_build_at t parts ho vals hv cells hb h
theorem wpList_build (hgd : o.guard = none) (t : TypeId) (parts : Array (Nat × Operand)) (ho : o.op = .build t parts) (vals : List (Nat × Value)) (hv : parts.toList.map (fun (i, x) => (i, a.eval x)) = vals) (cells : List Value) (hb : P.built t vals = some cells.toArray)
    (h : wpList P ops Q rest (a.put o.dst (.agg cells.toArray)) w) : wpList P ops Q (o :: rest) a w :=
  wpList_plain hgd fun _ hK => wp_build_at t parts ho vals hv cells hb (hK _ _ h)
end

theorem list32 {α : Type} (Y : List α) (h : Y.length = 32) : ∃ a0 a1 a2 a3 a4 a5 a6 a7 a8 a9 a10 a11 a12 a13 a14 a15 a16 a17 a18 a19 a20 a21 a22 a23 a24 a25 a26 a27 a28 a29 a30 a31, Y = [a0, a1, a2, a3, a4, a5, a6, a7, a8, a9, a10, a11, a12, a13, a14, a15, a16, a17, a18, a19, a20, a21, a22, a23, a24, a25, a26, a27, a28, a29, a30, a31] := by
  match Y, h with
  | [a0, a1, a2, a3, a4, a5, a6, a7, a8, a9, a10, a11, a12, a13, a14, a15, a16, a17, a18, a19, a20, a21, a22, a23, a24, a25, a26, a27, a28, a29, a30, a31], _ => exact ⟨_, _, _, _, _, _, _, _, _, _, _, _, _, _, _, _, _, _, _, _, _, _, _, _, _, _, _, _, _, _, _, _, rfl⟩

theorem built35 (q0 q1 q2 q3 : Value) (A : List Value) (hA : A.length = 32) (i n c : Int) :
    Try.prog.built 35 [(0, .agg #[q0, q1, q2, q3]), (1, .agg A.toArray), (2, .int .i64 i), (3, .int .i64 n), (4, .int .i64 c)] = some (pt q0 q1 q2 q3 A (.int .i64 i) (.int .i64 n) (.int .i64 c)).toArray := by
  obtain ⟨a0, a1, a2, a3, a4, a5, a6, a7, a8, a9, a10, a11, a12, a13, a14, a15, a16, a17, a18, a19, a20, a21, a22, a23, a24, a25, a26, a27, a28, a29, a30, a31, rfl⟩ := list32 A hA
  kernel_rfl
theorem built35s (q0 q1 q2 q3 : Value) (A : List Value) (hA : A.length = 32) (n : Int) :
    Try.prog.built 35 [(0, .agg #[q0, q1, q2, q3]), (1, .agg A.toArray), (3, .int .i64 n)] = some (pt q0 q1 q2 q3 A (.int .i64 0) (.int .i64 n) (.int .i64 0)).toArray := by
  obtain ⟨a0, a1, a2, a3, a4, a5, a6, a7, a8, a9, a10, a11, a12, a13, a14, a15, a16, a17, a18, a19, a20, a21, a22, a23, a24, a25, a26, a27, a28, a29, a30, a31, rfl⟩ := list32 A hA
  kernel_rfl
def Z39 : List Value := u64s (List.replicate 36 0) ++ [.int .i64 0, .int .i64 0, .int .i64 0]
theorem zero35 : (Try.prog.info? 35).map (fun i => (i.zero, i.size)) = some (some (.agg Z39.toArray), 39) := by kernel_rfl
theorem size35 : (Try.prog.info? 35).map (·.size) = some 39 := by kernel_rfl
theorem Z39_length : Z39.length = 39 := rfl
theorem parts_one (x : G) : ∀ v ∈ x.parts, v.oneCell' = true := by
  intro v hv
  unfold G.parts pt at hv
  rcases List.mem_append.1 hv with h | h
  · exact u64s_one [x.s0, x.s1, x.s2, x.s3] v h
  · rcases List.mem_append.1 h with h | h
    · exact u64s_one _ v h
    · simp only [List.mem_cons, List.not_mem_nil, or_false] at h
      rcases h with rfl | rfl | rfl <;> rfl

set_option maxRecDepth 100000 in
set_option maxHeartbeats 2000000 in
theorem partsOf_any (g : Nat) (x : G) (hok : x.ok) (w : World) (hB : B w g 68 x.cells) :
    Calls Try.prog 48 #[.pointer (some ⟨g, 0, none⟩)] w fun e w' =>
      e = .returned (.agg x.parts.toArray) ∧ Below w.heap.size w w' := by
  obtain ⟨ti, hti, hz, hsz⟩ := row_of zero30
  have hz' : ti.zero = some (.agg Z4.toArray) := hz
  obtain ⟨tj, htj, hy, _⟩ := row_of zero33'
  have hy' : tj.zero = some (.agg Z32.toArray) := hy
  obtain ⟨tk, htk, hx, _⟩ := row_of zero35
  have h33 := Try.underlying33
  have h30 := Try.underlying30
  have h35 := Try.underlying35
  have hcall := fun w h => zzstate_any g x w h
  have i33 := info32' _ x.buf_length
  have hso : ∀ v ∈ seedL x, v.oneCell' = true := u64s_one _
  have hbo := u64s_one x.buf
  have hpo := parts_one x
  have is : (Try.prog.info? 30).map (·.size) = some (seedL x).length := by kernel_rfl
  have ip : (Try.prog.info? 35).map (·.size) = some x.parts.length := by rw [size35, x.parts_length]
  have hbld : Try.prog.built 35 [(0, .agg (seedL x).toArray), (1, .agg (u64s x.buf).toArray), (2, .int .i64 (x.i : Int)), (3, .int .i64 (x.n : Int)), (4, .int .i64 ((4 * x.g : Nat) : Int))] = some x.parts.toArray :=
    built35 _ _ _ _ _ x.bufs_length _ _ _
  have hn32 := x.n_le
  have hi32 := hok.2
  have hg4 := hok.1
  have hbl := x.bufs_length
  have hpl := x.parts_length
  obtain ⟨i, hi⟩ : ∃ i, i = x.i := ⟨_, rfl⟩
  obtain ⟨n, hn⟩ : ∃ n, n = x.n := ⟨_, rfl⟩
  obtain ⟨c, hc⟩ : ∃ c, c = 4 * x.g := ⟨_, rfl⟩
  rw [← hi, ← hn, ← hc] at hbld hcall
  rw [← hi, ← hn] at hi32
  rw [← hn] at hn32
  have i1 : (i : Int) ≤ 32 := by omega
  have i2 : (n : Int) ≤ 32 := by omega
  have i3 : (c : Int) ≤ 12 := by omega
  clear hi hn hc hok
  generalize x.parts = R at hbld ip hpo hpl ⊢
  generalize u64s x.buf = A at hbld i33 hbo hbl hcall
  have hsl : (seedL x).length = 4 := rfl
  have I33 := Lib.hid i33
  have IS := Lib.hid is
  have IP := Lib.hid ip
  have HBL := Lib.hid (show A.length = Z32.length by rw [hbl, Z32_length])
  have HPL := Lib.hid (show R.length = Z39.length by rw [hpl, Z39_length])
  have HSL := Lib.hid (show (seedL x).length = Z4.length from rfl)
  clear i33 is ip hbl hpl hsl
  generalize seedL x = D at hbld IS hso hcall HSL
  have HBLD := Lib.hid hbld
  clear hbld
  go_enter Try.func48, Try.ntmps48
  go_wp2_with (first
    | (refine wpList_alloc rfl 35 rfl tk _ Z39 htk hx rfl ?_; intro g2 w2 hg2 hlt2 hR2 hb2; (try go_frame); have hB2 := hB.call hb2; have hc2 := hcall w2 hB2)
    | (go_at_call 66; refine hc2.mono ?_; rintro e w3 ⟨rfl, hb3⟩; have hR3 := hR2.call hb3; have e3 := below_call hb2 hb2.size hb3)
    | (refine wpList_alloc rfl 30 rfl ti _ Z4 hti hz' rfl ?_; intro g4 w4 hg4 hlt4 hS4 hb4; (try go_frame); have hR4 := hR3.call hb4; have e4 := below_call e3 e3.size hb4)
    | (refine wpList_alloc rfl 33 rfl tj _ Z32 htj hy' rfl ?_; intro g5 w5 hg5 hlt5 hT5 hb5; (try go_frame); have hR5 := hR4.call hb5; have hS5 := hS4.call hb5; have e5 := below_call e4 e4.size hb5; have n45 : g4 ≠ g5 := (by have := hS4.lt; omega); have n25 : g2 ≠ g5 := (by have := hR4.lt; omega); have n24 : g2 ≠ g4 := (by have := hR3.lt; omega); have lg4 : w.heap.size ≤ g4 := (by have := e3.size; omega); have lg5 : w.heap.size ≤ g5 := (by have := e4.size; omega))
    | (refine wpList_store_all rfl 30 _ _ rfl g4 rfl hS5 D rfl HSL.out hso IS.out ?_; intro w6 hS6 hO6; (try go_frame); have hR6 := hR5.only hO6 n24; have hT6 := hT5.only hO6 n45.symm; have e6 := e5.trans (hO6.below _ lg4))
    | (refine wpList_store_all rfl 33 _ _ rfl g5 rfl hT6 A rfl HBL.out hbo I33.out ?_; intro w7 hT7 hO7; (try go_frame); have hR7 := hR6.only hO7 n25; have hS7 := hS6.only hO7 n45; have e7 := e6.trans (hO7.below _ lg5))
    | (refine wpList_load_all rfl 30 _ rfl g4 rfl hS7 h30 rfl IS.out ?_)
    | (refine wpList_load_all rfl 33 _ rfl g5 rfl hT7 h33 rfl I33.out ?_)
    | (refine wpList_build rfl 35 _ rfl _ rfl R HBLD.out ?_; (try go_frame))
    | (refine wpList_store_all rfl 35 _ _ rfl g2 rfl hR7 R rfl HPL.out hpo IP.out ?_; intro w8 hR8 hO8; (try go_frame); have e8 := e7.trans (hO8.below _ hg2)))
  exact bodyPost_ret (results_block rfl _ _ g2 35 R _ rfl hR8 h35 rfl IP.out) rfl ⟨rfl, e8⟩

def ZS : List Value := u64s (List.replicate 36 0) ++ [.int .u32 0, .int .u32 0, .int .u32 0]
theorem buildS (w : World) : (Instr.build 68 #[]).run Try.prog w = .ok (.agg ZS.toArray) w := by kernel_rfl
theorem ZS_st : ZS = st (u64s (List.replicate 32 0)) (.int .u64 0) (.int .u64 0) (.int .u64 0) (.int .u64 0) (.int .u32 0) (.int .u32 0) (.int .u32 0) := rfl

set_option maxRecDepth 100000 in
set_option maxHeartbeats 2000000 in
theorem implInit64_any (hb : BlockC) (s0 s1 s2 s3 : V) (w : World) :
    Calls Try.prog 29 #[.agg (u64s [s0, s1, s2, s3]).toArray] w fun e w' =>
      e = .returned (.agg (seeded s0 s1 s2 s3).parts.toArray) ∧ Below w.heap.size w w' := by
  obtain ⟨tk, htk, hx, _⟩ := row_of zero35
  have h30 := Try.underlying30
  have h35 := Try.underlying35
  have bld := buildS
  have cI := fun g w h => init64_any hb g (u64s (List.replicate 32 0)) (by simp [u64s]) (.int .u64 0) (.int .u64 0) (.int .u64 0) (.int .u64 0) (.int .u32 0) (.int .u32 0) (.int .u32 0) s0 s1 s2 s3 w h
  have cP := fun g w h => partsOf_any g (seeded s0 s1 s2 s3) (seeded_ok s0 s1 s2 s3) w h
  rw [← ZS_st] at cI
  have hpl := (seeded s0 s1 s2 s3).parts_length
  have IP := Lib.hid (show (Try.prog.info? 35).map (·.size) = some (seeded s0 s1 s2 s3).parts.length by rw [size35, hpl])
  have HPL := Lib.hid (show (seeded s0 s1 s2 s3).parts.length = Z39.length by rw [hpl, Z39_length])
  have hpo := parts_one (seeded s0 s1 s2 s3)
  clear hpl
  generalize (seeded s0 s1 s2 s3).cells = C at cI cP
  generalize (seeded s0 s1 s2 s3).parts = R at cP IP HPL hpo ⊢
  have CI := Lib.hid cI
  have CP := Lib.hid cP
  clear cI cP
  go_enter Try.func29, Try.ntmps29
  go_wp2_with (first
    | (refine wpList_box rfl 30 _ rfl _ (u64s [s0, s1, s2, s3]) rfl rfl ?_; intro gs w1 hgs hlt1 hS1 hb1; (try go_frame))
    | (refine wpList_alloc rfl 35 rfl tk _ Z39 htk hx rfl ?_; intro g2 w2 hg2 hlt2 hR2 hb2; (try go_frame); have hS2 := hS1.call hb2; have e2 := below_call hb1 hb1.size hb2)
    | (refine wpList_build0 rfl 68 rfl _ bld ?_; (try go_frame))
    | (refine wpList_box rfl 68 _ rfl _ ZS rfl rfl ?_; intro g3 w3 hg3 hlt3 hG3 hb3; (try go_frame); have hS3 := hS2.call hb3; have hR3 := hR2.call hb3; have e3 := below_call e2 e2.size hb3; have c3 := CI.out g3 w3 hG3; have n32 : g2 ≠ g3 := (by have := hR2.lt; omega); have lg3 : w.heap.size ≤ g3 := (by have := e2.size; omega); have lg2 : w.heap.size ≤ g2 := (by have := hb1.size; omega))
    | (refine wpList_load_all rfl 30 _ rfl gs rfl hS3 h30 rfl (by kernel_rfl) ?_)
    | (go_at_call 41; refine c3.mono ?_; rintro e w4 ⟨rfl, hG4, hp4⟩; have hR4 := B_past hR3 hp4 n32; have e4 := below_past e3 lg3 e3.size hp4; have c4 := CP.out g3 w4 hG4)
    | (go_at_call 48; refine c4.mono ?_; rintro e w5 ⟨rfl, hb5⟩; have hR5 := hR4.call hb5; have e5 := below_call e4 e4.size hb5)
    | (refine wpList_store_all rfl 35 _ _ rfl g2 rfl hR5 R rfl HPL.out hpo IP.out ?_; intro w6 hR6 hO6; (try go_frame); have e6 := e5.trans (hO6.below _ lg2)))
  exact bodyPost_ret (results_block rfl _ _ g2 35 R _ rfl hR6 h35 rfl IP.out) rfl ⟨rfl, e6⟩

set_option maxRecDepth 100000 in
set_option maxHeartbeats 2000000 in
theorem start_any (s0 s1 s2 s3 : V) (w : World) :
    Calls Try.prog 54 #[.agg (u64s [s0, s1, s2, s3]).toArray] w fun e w' =>
      e = .returned (.agg (seeded s0 s1 s2 s3).parts.toArray) ∧ Below w.heap.size w w' := by
  obtain ⟨tk, htk, hx, _⟩ := row_of zero35
  have h30 := Try.underlying30
  have h35 := Try.underlying35
  have hres : (seeded s0 s1 s2 s3).parts = pt (.int .u64 (n64 s0)) (.int .u64 (n64 s1)) (.int .u64 (n64 s2)) (.int .u64 (n64 s3)) (u64s (blockL s0 s1 s2 s3 0)) (.int .i64 0) (.int .i64 32) (.int .i64 0) := rfl
  have hbld := built35s (.int .u64 (n64 s0)) (.int .u64 (n64 s1)) (.int .u64 (n64 s2)) (.int .u64 (n64 s3)) (u64s (blockL s0 s1 s2 s3 0)) (by rw [u64s_length, blockL_length]) 32
  rw [← hres] at hbld
  have hbld' : Try.prog.built 35 [(0, .agg (u64s [s0, s1, s2, s3]).toArray), (1, .agg (u64s (blockL s0 s1 s2 s3 0)).toArray), (3, .int .i64 32)] = some (seeded s0 s1 s2 s3).parts.toArray := hbld
  have cB := fun w => blockSpec_any s0 s1 s2 s3 0 w
  have hz : n32 (0 : W) = 0 := rfl
  rw [hz] at cB
  have hpl := (seeded s0 s1 s2 s3).parts_length
  have IP := Lib.hid (show (Try.prog.info? 35).map (·.size) = some (seeded s0 s1 s2 s3).parts.length by rw [size35, hpl])
  have HPL := Lib.hid (show (seeded s0 s1 s2 s3).parts.length = Z39.length by rw [hpl, Z39_length])
  have hpo := parts_one (seeded s0 s1 s2 s3)
  clear hpl hres hbld hz
  generalize (seeded s0 s1 s2 s3).parts = R at hbld' IP HPL hpo ⊢
  generalize u64s (blockL s0 s1 s2 s3 0) = A at hbld' cB
  have hSi : (Try.prog.info? 30).map (·.size) = some (u64s [s0, s1, s2, s3]).length := by kernel_rfl
  generalize hSg : u64s [s0, s1, s2, s3] = S at hbld' cB hSi
  have HBLD := Lib.hid hbld'
  clear hbld'
  go_enter Try.func54, Try.ntmps54
  go_wp2_with (first
    | (refine wpList_box rfl 30 _ rfl _ S rfl rfl ?_; intro gs w1 hgs hlt1 hS1 hb1; (try go_frame))
    | (refine wpList_alloc rfl 35 rfl tk _ Z39 htk hx rfl ?_; intro g2 w2 hg2 hlt2 hR2 hb2; (try go_frame); have hS2 := hS1.call hb2; have e2 := below_call hb1 hb1.size hb2))
  have lg2 : w.heap.size ≤ g2 := by have := hb1.size; omega
  have n2s : gs ≠ g2 := by have := hS1.lt; omega
  refine wp_region_first (fun w => B w gs 30 S) 2 (by kernel_rfl) (by kernel_rfl) (fun _ _ d _ _ h => by cases d <;> exact h) hS2.drew ?_
  simp only [List.take_succ_cons, List.take_zero, List.drop_succ_cons, List.drop_zero]
  iterate 2
    refine ⟨_, yieldsIf_load_part rfl 30 _ rfl gs 0 rfl (fun w h => h) S (by rw [List.drop_zero]; exact List.take_length) h30 rfl hSi, ?_⟩
    simp only [Act.put, List.setIfInBounds_toArray, List.set_cons_zero, List.set_cons_succ]
  refine wpFirst_nil ?_
  have hR3 := hR2.drew
  have hS3 := hS2.drew
  have e3 : Below w.heap.size w w2.drew := below_drewN e2 1
  refine wpThen_step (fun K hK => ?_)
  go_simp
  refine (cB _).mono ?_
  rintro e w4 ⟨rfl, hb4⟩
  have hS4 := hS3.call hb4
  have hR4 := hR3.call hb4
  have e4 := below_call e3 e3.size hb4
  go_simp
  refine hK _ _ hS4 ?_
  clear hK K
  refine wpThen_step (fun K hK => ?_)
  refine step_build rfl 35 _ rfl _ rfl R HBLD.out ?_
  refine hK _ _ hS4 ?_
  clear hK K
  refine wpThen_step (fun K hK => ?_)
  refine step_store_all rfl 35 _ _ rfl g2 rfl hR4 R rfl HPL.out hpo IP.out ?_
  intro w5 hR5 hO5
  have e5 := e4.trans (hO5.below _ lg2)
  refine hK _ _ (hS4.only hO5 n2s) ?_
  clear hK K
  refine wpThen_nil ?_
  go_wp2
  exact bodyPost_ret (results_block rfl _ _ g2 35 R _ rfl hR5 h35 rfl IP.out) rfl ⟨rfl, e5⟩

set_option maxRecDepth 100000 in
set_option maxHeartbeats 2000000 in
theorem specStart_any (s0 s1 s2 s3 : V) (w : World) :
    Calls Try.prog 34 #[.agg (u64s [s0, s1, s2, s3]).toArray] w fun e w' =>
      e = .returned (.agg (seeded s0 s1 s2 s3).parts.toArray) ∧ Below w.heap.size w w' := by
  obtain ⟨tk, htk, hx, _⟩ := row_of zero35
  have h30 := Try.underlying30
  have h35 := Try.underlying35
  have cS := fun w => start_any s0 s1 s2 s3 w
  have hpl := (seeded s0 s1 s2 s3).parts_length
  have IP := Lib.hid (show (Try.prog.info? 35).map (·.size) = some (seeded s0 s1 s2 s3).parts.length by rw [size35, hpl])
  have HPL := Lib.hid (show (seeded s0 s1 s2 s3).parts.length = Z39.length by rw [hpl, Z39_length])
  have hpo := parts_one (seeded s0 s1 s2 s3)
  clear hpl
  generalize (seeded s0 s1 s2 s3).parts = R at cS IP HPL hpo ⊢
  go_enter Try.func34, Try.ntmps34
  go_wp2_with (first
    | (refine wpList_box rfl 30 _ rfl _ (u64s [s0, s1, s2, s3]) rfl rfl ?_; intro gs w1 hgs hlt1 hS1 hb1; (try go_frame))
    | (refine wpList_alloc rfl 35 rfl tk _ Z39 htk hx rfl ?_; intro g2 w2 hg2 hlt2 hR2 hb2; (try go_frame); have hS2 := hS1.call hb2; have e2 := below_call hb1 hb1.size hb2; have lg2 : w.heap.size ≤ g2 := (by have := hb1.size; omega))
    | (refine wpList_load_all rfl 30 _ rfl gs rfl hS2 h30 rfl (by kernel_rfl) ?_)
    | (go_at_call 54; refine (cS _).mono ?_; rintro e w5 ⟨rfl, hb5⟩; have hR5 := hR2.call hb5; have e5 := below_call e2 e2.size hb5)
    | (refine wpList_store_all rfl 35 _ _ rfl g2 rfl hR5 R rfl HPL.out hpo IP.out ?_; intro w6 hR6 hO6; (try go_frame); have e6 := e5.trans (hO6.below _ lg2)))
  exact bodyPost_ret (results_block rfl _ _ g2 35 R _ rfl hR6 h35 rfl IP.out) rfl ⟨rfl, e6⟩
end Go.Proofs.Ytjhpffenlhfilaa.Ch
