/- The walk of the law on a state that is reseeded. -/
import Derived.Test.YtjhpffenlhfilaaSep
import Derived.Test.YtjhpffenlhfilaaNexts
import Derived.Test.YtjhpffenlhfilaaPick
namespace Go.Proofs.Ytjhpffenlhfilaa
open Go.RowKit Ch Mem

theorem own_base_le {w : World} {base base' n size : Nat} {t : TypeId} {v : Value} {xs : List Value} (h : w.ownsRow base t size v n xs) (hb : base' ≤ base) : w.ownsRow base' t size v n xs :=
  ⟨h.1, h.2.imp id fun ⟨g, cap, cur, hv, hg, r⟩ => ⟨g, cap, cur, hv, Nat.le_trans hb hg, r⟩⟩
theorem Sep.newRow {W w w' : World} {cls : Nat → Nat} {gs n : Nat} {T : TypeId} {S xs : List Value} {A : Option Addr} {a : Act} (h : Sep W cls gs T S A n xs a w) (hb : Below w.heap.size w w') {d : Nat} (v : Value) (hv : ∀ g, blkOf v = some g → w.heap.size ≤ g ∧ g < w'.heap.size) (hs : d < a.tmps.size) : Sep W cls gs T S A n xs (a.put (some d) v) w' := by
  have hsl := h.seed.lt
  have hWs := h.below.size
  refine ⟨below_call h.below h.below.size hb, h.seed.call hb, h.arg.below (hb.mono h.below.size), fun k hk x hx => ?_, fun k k' hk hk' hc x hx hx' => ?_⟩
  · by_cases hkd : d = k
    · subst hkd
      rw [put_get_eq a v hs] at hx
      have := hv x hx
      exact ⟨by omega, this.2, by omega⟩
    · rw [put_get_ne a v hkd] at hx
      obtain ⟨h1, h2, h3⟩ := h.lt k hk x hx
      exact ⟨h1, Nat.lt_of_lt_of_le h2 hb.size, h3⟩
  · by_cases hkd : d = k
    · subst hkd
      rw [put_get_eq a v hs] at hx
      have := hv x hx
      rw [put_get_ne a v (fun he => hc (by rw [he]))] at hx'
      have := h.lt k' hk' x hx'
      omega
    · rw [put_get_ne a v hkd] at hx
      by_cases hkd' : d = k'
      · subst hkd'
        rw [put_get_eq a v hs] at hx'
        have := hv x hx'
        have := h.lt k hk x hx
        omega
      · rw [put_get_ne a v hkd'] at hx'
        exact h.apart k k' hk hk' hc x hx hx'

theorem guard_Reseeded (S : Array Value) (a1 : Int) (hg : a1 < 0 ∨ 200 < a1) (W : World) :
    Calls Try.prog 8 #[.agg S, .int .i64 a1] W fun e w' => e = .returned (.bool true) ∧ Below W.heap.size W w' := by
  by_cases h1 : a1 < 0
  · clear hg
    go_enter Try.func8, Try.ntmps8
    go_wp2
    go_ret
    exact ⟨rfl, (Below.refl _ _).alloc (Nat.le_refl _) _⟩
  · have h2 : 200 < a1 := by omega
    clear hg
    go_enter Try.func8, Try.ntmps8
    go_wp2
    go_ret
    exact ⟨rfl, (Below.refl _ _).alloc (Nat.le_refl _) _⟩

def phiRS (M : Nat) (S : List Value) (n len : Nat) (z : List Int) (x : G) : Nat → Fb
  | 0 => .val (.agg S.toArray)
  | 1 => .val (.int .i64 (n : Int))
  | 2 => .own M 3 len (steps64 z)
  | 3 => .lit 3 1 [.int .i64 2]
  | 4 => .own M 3 (len + 1) (steps64 (z ++ [2]))
  | 5 => .tup M x (z ++ [2]) (len + 1)
  | 6 => .tup M x (z ++ [2]) (len + 1)
  | 7 => .run M x (z ++ [2]) (len + 1)
  | 8 => .val (.agg (x.run (z ++ [2])).parts.toArray)
  | 9 => .blk 35 Z39
  | 10 => .run M x (z ++ [2]) (len + 1)
  | _ => .nil
theorem lit2r_run (w : World) : (Instr.buildSlice 31 1 #[(0, .int .i64 2)]).run Try.prog w = .ok (.slice (some ⟨w.heap.size, 0, none⟩) 1 1) (w.alloc (.cells [.int .i64 2].toArray 3)) := by kernel_rfl

set_option maxRecDepth 100000 in
set_option maxHeartbeats 4000000 in
theorem walk_FnReseeded (hb : BlockC) (l0 : List Int) (hl0 : l0.length = 4) (w0 : ∀ x ∈ l0, (Lit.int .u64 x).wf = true) (a1 : Int) (w1 : (Lit.int .i64 a1).wf = true) (W : World) :
    Calls Try.prog 8 #[.agg (Eq.ints .u64 l0), .int .i64 a1] W fun e w' => e = .returned (.bool true) ∧ Below W.heap.size W w' := by
  by_cases hg : a1 < 0 ∨ 200 < a1
  · exact guard_Reseeded _ a1 hg W
  obtain ⟨s0, s1, s2, s3, hs⟩ := seed_of hl0 w0
  rw [hs]
  obtain ⟨n, rfl⟩ : ∃ n : Nat, a1 = (n : Int) := ⟨a1.toNat, by omega⟩
  have n1 : (0 : Int) ≤ (n : Int) := by omega
  have n2 : (n : Int) ≤ 200 := by omega
  clear hg w1 hl0 w0 hs
  obtain ⟨tk, htk, hx, _⟩ := row_of zero35
  have h30 := Try.underlying30
  have h35 := Try.underlying35
  have cD := fun w => draw_any hb s0 s1 s2 s3 (n + 4) (by omega) w
  have hcast : ((n + 4 : Nat) : Int) = (n : Int) + 4 := by omega
  rw [hcast] at cD
  have CD := Lib.hid cD
  have hSi : (Try.prog.info? 30).map (·.size) = some (u64s [s0, s1, s2, s3]).length := by kernel_rfl
  have v1 : IntKind.i64.wrap ((n : Int) + 4) = (n : Int) + 4 := by rw [IntKind.wrap_i64]; omega
  clear cD
  go_enter Try.func8, Try.ntmps8
  go_wp2_with (first
    | (refine wpList_box rfl 30 _ rfl _ (u64s [s0, s1, s2, s3]) rfl rfl ?_; intro gs wS hgs hltS hS hbS; (try go_frame))
    | (refine wpList_load_all rfl 30 _ rfl gs rfl hS h30 rfl hSi ?_)
    | (go_at_call 28; refine (CD.out _).mono ?_; rintro e w3 ⟨A1, c1, rfl, hr3, hb3⟩; have hS3 := hS.call hb3; have e3 := below_call hbS hbS.size hb3))
  have hnl := nx_length 0 false n
  have hx1 := reseed_it s0 s1 s2 s3 n
  have NX := Lib.hid (fun w => nexts_any 0 n n false (by omega) (by omega) (by omega) w)
  generalize nx 0 false n = z at hnl hx1 NX
  obtain ⟨len, hlen⟩ : ∃ len, len = z.length := ⟨_, rfl⟩
  rw [← hlen] at hnl NX
  have hzl : len ≤ 400 := by omega
  clear hnl
  refine wp_region_facts_tail 11 (okF (phiRS w3.heap.size (u64s [s0, s1, s2, s3]) n len z (seeded s0 s1 s2 s3)))
    (Sep w3 (fun k => match k with | 26 => 1 | 28 => 1 | 27 => 2 | 7 => 3 | _ => 0) gs 30 (u64s [s0, s1, s2, s3]) none 0 [])
    (fun j => match j with | 2 => [1] | 4 => [2, 3] | 5 => [0, 4] | 6 => [5] | 7 => [6] | 8 => [6] | 10 => [7] | _ => [])
    (fun j => match j with | 4 => [2] | _ => []) (by kernel_rfl) (by kernel_rfl) ?_ ?_ ?_
  · exact Sep.start (below_drewN (Below.refl _ _) 1) hS3.drew Reads.none_ 55 rfl (by kernel_rfl)
  · intro j hj
    match j, hj with
    | 0, _ => exact stepF_load rfl rfl rfl rfl _ _ rfl (by kernel_rfl) rfl h30 rfl hSi rfl
    | 1, _ => exact stepF_const rfl rfl rfl rfl _ rfl (by kernel_rfl) _ rfl rfl
    | 2, _ =>
      intro o ho a w K hd ht hr hC hp hK
      obtain rfl := Option.some.inj ho
      have p1 := hp 1 (by decide) _ rfl
      refine step_func rfl _ _ Try.func27 (by kernel_rfl) (by kernel_rfl) _ _ rfl [.int .i64 ((0 : Nat) : Int), .int .i64 (n : Int), .bool false] (by
        show [a.eval (.const (.int .i64 0)), a.eval (.tmp 25), a.eval (.const (.bool false))] = _
        rw [eval_tmp]
        exact congrArg (fun x => [a.eval (.const (.int .i64 0)), x, a.eval (.const (.bool false))]) p1) ((NX.out w).mono ?_)
      rintro e w' ⟨v, rfl, hown, hbn⟩
      refine ⟨_, rfl, hK _ _ (fun h => by cases h) (hC.newRow hbn v (fun g hg => ?_) (by rw [ht]; exact Nat.le_of_ble_eq_true rfl)) (okF_of (f := .own w3.heap.size 3 len (steps64 z)) rfl (own_base_le hown hC.below.size)) fun p _ _ _ _ _ h => Fb.keep hbn h⟩
      rw [blkOf_own hown] at hg
      exact ⟨own_base hown g hg, own_lt hown g hg⟩
    | 3, _ => exact stepF_lit rfl rfl (Nat.le_of_ble_eq_true rfl) rfl _ _ _ rfl [(0, .int .i64 2)] (fun _ => rfl) _ [.int .i64 2] lit2r_run (.inl rfl)
    | 4, _ => exact stepF_app rfl rfl (Nat.le_of_ble_eq_true rfl) rfl 2 26 _ rfl _ rfl rfl (by decide) len 1 (steps64 z) [.int .i64 2] rfl (.lit 3 27 1 _ _ _ rfl rfl (by decide) rfl rfl) (steps64_one [2]) rfl (by decide) (by kernel_rfl) (by omega) (by show Fb.own _ _ _ _ = _; simp [steps64])
    | 5, _ => exact stepF_run hb s0 s1 s2 s3 rfl rfl rfl rfl 0 4 24 28 _ rfl _ _ rfl rfl rfl rfl (by decide) (by decide) rfl (len + 1) (by omega) (z ++ [2]) rfl rfl
    | 6, _ => exact stepF_mov rfl rfl rfl rfl 5 29 (.inl rfl) _ rfl rfl (by decide) rfl
    | 7, _ => exact stepF_ext rfl rfl rfl rfl 6 23 0 rfl _ rfl rfl (by decide) _ _ _ _ rfl (.inl ⟨rfl, rfl⟩)
    | 8, _ => exact stepF_ext rfl rfl rfl rfl 6 23 1 rfl _ rfl rfl (by decide) _ _ _ _ rfl (.inr ⟨rfl, rfl⟩)
    | 9, _ => exact stepF_alloc rfl rfl (Nat.le_of_ble_eq_true rfl) rfl _ rfl tk _ Z39 htk hx rfl rfl
    | 10, _ => exact stepF_mov rfl rfl rfl rfl 7 30 (.inr rfl) _ rfl rfl (by decide) rfl
  · intro a w hd ht hr hC hf
    have f8 : a.tmps.getD 31 undef = .agg ((seeded s0 s1 s2 s3).run (z ++ [2])).parts.toArray := hf 8 _ (by decide) rfl (by decide)
    obtain ⟨g7, f9, B7⟩ : ∃ g, a.tmps.getD 7 undef = ptrTo g ∧ B w g 35 Z39 := hf 9 _ (by decide) rfl (by decide)
    have hb' := hC.below
    have l7 : w3.heap.size ≤ g7 := (hC.lt 7 (by decide) g7 (by rw [f9]; rfl)).1
    generalize e24 : a.tmps.getD 24 undef = v24 at *
    generalize e25 : a.tmps.getD 25 undef = v25 at *
    generalize e26 : a.tmps.getD 26 undef = v26 at *
    generalize e27 : a.tmps.getD 27 undef = v27 at *
    generalize e28 : a.tmps.getD 28 undef = v28 at *
    generalize e29 : a.tmps.getD 29 undef = v29 at *
    generalize e23 : a.tmps.getD 23 undef = v23 at *
    generalize e30 : a.tmps.getD 30 undef = v30 at *
    generalize e6 : a.tmps.getD 6 undef = v6 at *
    obtain rfl := frame_of [(24, v24), (25, v25), (26, v26), (27, v27), (28, v28), (29, v29), (23, v23), (30, v30), (31, _), (7, _), (6, v6)] 55 rfl (by kernel_rfl) hd ht hr (by
      intro p hp
      simp only [List.mem_cons, List.not_mem_nil, or_false] at hp
      rcases hp with rfl | rfl | rfl | rfl | rfl | rfl | rfl | rfl | rfl | rfl | rfl
      · exact e24
      · exact e25
      · exact e26
      · exact e27
      · exact e28
      · exact e29
      · exact e23
      · exact e30
      · exact f8
      · exact f9
      · exact e6)
    clear hd ht hr hC hf f8 f9 e24 e25 e26 e27 e28 e29 e23 e30 e6
    simp only [putL, Act.put, List.setIfInBounds_toArray, List.set_cons_zero, List.set_cons_succ, List.drop_succ_cons, List.drop_zero]
    rw [hx1]
    have hln := (seeded s0 s1 s2 s3).list_length (n + 4)
    have hlg := fun k (hk : k < n + 4) => (seeded s0 s1 s2 s3).list_get (n + 4) k hk
    generalize (seeded s0 s1 s2 s3).list (n + 4) = LA at hr3 hln hlg
    have g0 := hlg n (by omega)
    have g1 := hlg (n + 1) (by omega)
    have g2 := hlg (n + 2) (by omega)
    have g3 := hlg (n + 3) (by omega)
    generalize (seeded s0 s1 s2 s3).nth n = t0 at g0 ⊢
    generalize (seeded s0 s1 s2 s3).nth (n + 1) = t1 at g1 ⊢
    generalize (seeded s0 s1 s2 s3).nth (n + 2) = t2 at g2 ⊢
    generalize (seeded s0 s1 s2 s3).nth (n + 3) = t3 at g3 ⊢
    clear hlg hx1
    have CI := Lib.hid (fun w => implInit64_any hb t0 t1 t2 t3 w)
    have eqs := fun w => eql35 (seeded t0 t1 t2 t3) w
    have iR := iParts (seeded t0 t1 t2 t3)
    have lR := lParts (seeded t0 t1 t2 t3)
    have oR := parts_one (seeded t0 t1 t2 t3)
    generalize (seeded t0 t1 t2 t3).parts = R at CI eqs iR oR lR ⊢
    have HLR := Lib.hid (show R.length = Z39.length from lR)
    have IR := Lib.hid iR
    clear iR lR
    refine wpList_store_all rfl 35 _ _ rfl g7 rfl B7 R rfl HLR.out oR IR.out ?_
    intro w6 A7 o7
    have b6 : Below w3.heap.size w3 w6 := hb'.trans (o7.below _ l7)
    have e6 : Below W.heap.size W w6 := below_call e3 e3.size b6
    have hr6 := hr3.below b6
    have at_ : ∀ k, k < n + 4 → ∃ ad, A1 = some ad ∧ w6.cell? (ad.add k) = some (.int .u64 (n64 (LA.getD k 0))) := fun k hk => by
      obtain ⟨ad, u, hA, _, hu, hc⟩ := hr6.at_ hk
      rw [u64s_get _ _ (by rw [hln]; exact hk)] at hu
      obtain rfl := Option.some.inj hu
      exact ⟨ad, hA, hc⟩
    obtain ⟨ad, rfl, q0⟩ := at_ n (by omega)
    obtain ⟨ad1, hA1, q1⟩ := at_ (n + 1) (by omega)
    obtain rfl := Option.some.inj hA1
    obtain ⟨ad2, hA2, q2⟩ := at_ (n + 2) (by omega)
    obtain rfl := Option.some.inj hA2
    obtain ⟨ad3, hA3, q3⟩ := at_ (n + 3) (by omega)
    obtain rfl := Option.some.inj hA3
    rw [g0] at q0
    rw [g1] at q1
    rw [g2] at q2
    rw [g3] at q3
    clear at_ hA1 hA2 hA3 g0 g1 g2 g3 hr6 hr3 o7 B7 hb' l7 hln b6 NX hS3 hb3 e3 hx htk hbS hS oR CD
    obtain ⟨k1, hk1⟩ : ∃ k, k = n + 1 := ⟨_, rfl⟩
    obtain ⟨k2, hk2⟩ : ∃ k, k = n + 2 := ⟨_, rfl⟩
    obtain ⟨k3, hk3⟩ : ∃ k, k = n + 3 := ⟨_, rfl⟩
    rw [← hk1] at q1
    rw [← hk2] at q2
    rw [← hk3] at q3
    have p1 : IntKind.i64.wrap ((n : Int) + 1) = (k1 : Int) := by rw [IntKind.wrap_i64]; omega
    have p2 : IntKind.i64.wrap ((n : Int) + 2) = (k2 : Int) := by rw [IntKind.wrap_i64]; omega
    have p3 : IntKind.i64.wrap ((n : Int) + 3) = (k3 : Int) := by rw [IntKind.wrap_i64]; omega
    have m0 : (n : Int) < (n : Int) + 4 := by omega
    have m1 : (k1 : Int) < (n : Int) + 4 := by omega
    have m2 : (k2 : Int) < (n : Int) + 4 := by omega
    have m3 : (k3 : Int) < (n : Int) + 4 := by omega
    clear hk1 hk2 hk3
    go_wp2_with fail
    refine wp_region_pick (fun w => B w g7 35 R ∧ w.cell? (ad.add n) = some (.int .u64 (n64 t0)) ∧ w.cell? (ad.add k1) = some (.int .u64 (n64 t1)) ∧ w.cell? (ad.add k2) = some (.int .u64 (n64 t2)) ∧ w.cell? (ad.add k3) = some (.int .u64 (n64 t3)))
      [0, 1, 2, 3, 4, 5, 6, 7, 8, 9, 10, 11, 12, 13, 14, 15, 16, 17, 18, 19] [20, 21, 22, 23] (by kernel_rfl) (by kernel_rfl) (fun _ _ d _ _ h => by cases d <;> exact h) ⟨A7.drew, q0, q1, q2, q3⟩ ?_
    simp only [pick, List.drop_succ_cons, List.drop_zero]
    refine ⟨_, yieldsIf_load_part rfl 35 _ rfl g7 0 rfl (fun w h => h.1) R (by rw [List.drop_zero]; exact List.take_length) h35 rfl IR.out, ?_⟩
    simp only [Act.put, List.setIfInBounds_toArray, List.set_cons_zero, List.set_cons_succ]
    iterate 19
      refine ⟨?_, Or.inl ⟨by rfl, ?_⟩, ?_⟩
      rotate_left
      · intro w hw; obtain ⟨_, f0, f1, f2, f3⟩ := hw; go_simp; try with_reducible rfl
      simp only [Act.put, List.setIfInBounds_toArray, List.set_cons_zero, List.set_cons_succ]
    refine wpFirst_nil ?_
    have B1 := A7.drew
    have b1 : Below W.heap.size W w6.drew := below_drewN e6 1
    have c0 : w6.drew.cell? (ad.add n) = some (.int .u64 (n64 t0)) := q0
    have c1 : w6.drew.cell? (ad.add k1) = some (.int .u64 (n64 t1)) := q1
    have c2 : w6.drew.cell? (ad.add k2) = some (.int .u64 (n64 t2)) := q2
    have c3 : w6.drew.cell? (ad.add k3) = some (.int .u64 (n64 t3)) := q3
    generalize w6.drew = u1 at B1 b1 c0 c1 c2 c3 ⊢
    refine wpThen_step (fun K hK => ?_)
    refine step_build rfl 30 _ rfl [(0, .int .u64 (n64 t0)), (1, .int .u64 (n64 t1)), (2, .int .u64 (n64 t2)), (3, .int .u64 (n64 t3))] rfl (u64s [t0, t1, t2, t3]) (by kernel_rfl) ?_
    refine hK _ _ ⟨B1, c0, c1, c2, c3⟩ ?_
    clear hK K
    simp only [Act.put, List.setIfInBounds_toArray, List.set_cons_zero, List.set_cons_succ]
    refine wpThen_step (fun K hK => ?_)
    go_simp
    refine (CI.out _).mono ?_
    rintro e u2 ⟨rfl, hb2⟩
    have lt0 : ad.block < u1.heap.size := by have := World.block_lt_of_cell? _ _ c0; rwa [block_of_add] at this
    have B2 := B1.call hb2
    have b2 := below_call b1 b1.size hb2
    have d0 := (hb2.cell (p := ad.add n) (by rw [block_of_add]; exact lt0)).trans c0
    have d1 := (hb2.cell (p := ad.add k1) (by rw [block_of_add]; exact lt0)).trans c1
    have d2 := (hb2.cell (p := ad.add k2) (by rw [block_of_add]; exact lt0)).trans c2
    have d3 := (hb2.cell (p := ad.add k3) (by rw [block_of_add]; exact lt0)).trans c3
    go_simp
    refine hK _ _ ⟨B2, d0, d1, d2, d3⟩ ?_
    clear hK K
    iterate 2
      refine wpThen_step (fun K hK => ?_)
      go_simp
      refine hK _ _ ⟨B2, d0, d1, d2, d3⟩ ?_
      clear hK K
    refine wpThen_nil ?_
    go_wp2
    go_ret
    exact ⟨rfl, b2⟩
end Go.Proofs.Ytjhpffenlhfilaa
