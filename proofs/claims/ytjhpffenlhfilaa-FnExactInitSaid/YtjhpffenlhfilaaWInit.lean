/- The walks of State.Init and of the thin package's Init: a seed of bytes. -/
import Derived.Test.YtjhpffenlhfilaaWWords
import Derived.Test.YtjhpffenlhfilaaPick
namespace Go.Proofs.Ytjhpffenlhfilaa.Ch
open Go.RowKit Mem

theorem le_word (gd o n cap : Nat) (bs : List Y) (hn : 8 ≤ n) (w : World) (h : ∀ i, i < 8 → w.cell? ⟨gd, o + i, none⟩ = some (.int .u8 (n8 (bs.getD (o + i) 0)))) :
    Calls Try.prog 65 #[.slice (some ⟨gd, o, none⟩) n cap] w fun e w' =>
      e = .returned (.int .u64 (n64 (word bs o))) ∧ ∃ m, w.drewN m = w' := le_any gd o n cap (fun i => bs.getD (o + i) 0) hn w h

set_option maxRecDepth 100000 in
set_option maxHeartbeats 2000000 in
theorem stInit_any (hb : BlockC) (g : Nat) (A : List Value) (hA : A.length = 32) (a0 a1 a2 a3 a4 a5 a6 : Value) (bs : List Y) (hl : bs.length = 32) (w : World) (hB : B w g 68 (st A a0 a1 a2 a3 a4 a5 a6)) :
    Calls Try.prog 55 #[.pointer (some ⟨g, 0, none⟩), .agg (b8s bs).toArray] w fun e w' =>
      e = .returned (.tuple #[]) ∧ B w' g 68 (seeded (word bs 0) (word bs 8) (word bs 16) (word bs 24)).cells ∧ Past g w w' := by
  have cI := fun w h => init64_any hb g A hA a0 a1 a2 a3 a4 a5 a6 (word bs 0) (word bs 8) (word bs 16) (word bs 24) w h
  have CI := Lib.hid cI
  have cell : ∀ (w : World) (gb : Nat), B w gb 57 (b8s bs) → ∀ o, o + 8 ≤ 32 → ∀ i, i < 8 → w.cell? ⟨gb, o + i, none⟩ = some (.int .u8 (n8 (bs.getD (o + i) 0))) := fun w gb h o ho i hi => (h.cell _).trans (b8s_get _ _ (by omega))
  have CE := Lib.hid cell
  clear cI cell
  go_enter Try.func55, Try.ntmps55
  go_wp2_with (first
    | (refine wpList_box rfl 57 _ rfl _ (b8s bs) rfl rfl ?_; intro gb w1 hgb hlt1 hD1 hb1; (try go_frame); have hB1 := hB.call hb1))
  refine wp_region_pick (fun w => B w gb 57 (b8s bs)) [0, 1, 3, 5, 7] [2, 4, 6, 8, 9, 10] (by kernel_rfl) (by kernel_rfl) (fun _ _ d _ _ h => by cases d <;> exact h) hD1.drew ?_
  simp only [pick, List.drop_succ_cons, List.drop_zero]
  iterate 5
    refine ⟨?_, Or.inl ⟨by rfl, ?_⟩, ?_⟩
    rotate_left
    · intro w hw; go_simp; try with_reducible rfl
    simp only [Act.put, List.setIfInBounds_toArray, List.set_cons_zero, List.set_cons_succ]
  refine wpFirst_nil ?_
  have hDa := hD1.drew
  have hBa := hB1.drew
  have pa : Past g w w1.drew := (Past.of_below hb1).drewN 1
  have ng : gb ≠ g := by have := hB.lt; omega
  generalize w1.drew = ua at hDa hBa pa ⊢
  clear hD1 hB1 hb1 hlt1 hgb hB
  refine wpThen_step (fun K hK => ?_)
  go_simp
  refine (le_word gb 0 32 32 bs (by omega) ua (CE.out _ gb hDa 0 (by omega))).mono ?_
  rintro e ub ⟨rfl, mb, hb⟩
  have hDb : B ub gb 57 (b8s bs) := by rw [← hb]; exact hDa.drewN _
  have hBb : B ub g 68 (st A a0 a1 a2 a3 a4 a5 a6) := by rw [← hb]; exact hBa.drewN _
  have pb : Past g w ub := by rw [← hb]; exact pa.drewN _
  go_simp
  refine hK _ _ hDb ?_
  clear hK K hb hDa hBa pa
  refine wpThen_step (fun K hK => ?_)
  go_simp
  refine (le_word gb 8 24 24 bs (by omega) ub (CE.out _ gb hDb 8 (by omega))).mono ?_
  rintro e uc ⟨rfl, mc, hc⟩
  have hDc : B uc gb 57 (b8s bs) := by rw [← hc]; exact hDb.drewN _
  have hBc : B uc g 68 (st A a0 a1 a2 a3 a4 a5 a6) := by rw [← hc]; exact hBb.drewN _
  have pc : Past g w uc := by rw [← hc]; exact pb.drewN _
  go_simp
  refine hK _ _ hDc ?_
  clear hK K hc hDb hBb pb
  refine wpThen_step (fun K hK => ?_)
  go_simp
  refine (le_word gb 16 16 16 bs (by omega) uc (CE.out _ gb hDc 16 (by omega))).mono ?_
  rintro e ud ⟨rfl, md, hd⟩
  have hDd : B ud gb 57 (b8s bs) := by rw [← hd]; exact hDc.drewN _
  have hBd : B ud g 68 (st A a0 a1 a2 a3 a4 a5 a6) := by rw [← hd]; exact hBc.drewN _
  have pd : Past g w ud := by rw [← hd]; exact pc.drewN _
  go_simp
  refine hK _ _ hDd ?_
  clear hK K hd hDc hBc pc
  refine wpThen_step (fun K hK => ?_)
  go_simp
  refine (le_word gb 24 8 8 bs (by omega) ud (CE.out _ gb hDd 24 (by omega))).mono ?_
  rintro e ue ⟨rfl, me, he⟩
  have hDe : B ue gb 57 (b8s bs) := by rw [← he]; exact hDd.drewN _
  have hBe : B ue g 68 (st A a0 a1 a2 a3 a4 a5 a6) := by rw [← he]; exact hBd.drewN _
  have pe : Past g w ue := by rw [← he]; exact pd.drewN _
  go_simp
  refine hK _ _ hDe ?_
  clear hK K he hDd hBd pd
  generalize h0 : word bs 0 = t0 at CI ⊢
  generalize h1 : word bs 8 = t1 at CI ⊢
  generalize h2 : word bs 16 = t2 at CI ⊢
  generalize h3 : word bs 24 = t3 at CI ⊢
  have H0 := Lib.hid h0
  have H1 := Lib.hid h1
  have H2 := Lib.hid h2
  have H3 := Lib.hid h3
  clear h0 h1 h2 h3
  refine wpThen_step (fun K hK => ?_)
  refine step_build rfl 30 _ rfl [(0, .int .u64 (n64 t0)), (1, .int .u64 (n64 t1)), (2, .int .u64 (n64 t2)), (3, .int .u64 (n64 t3))] rfl (u64s [t0, t1, t2, t3]) (by kernel_rfl) ?_
  refine hK _ _ hDe ?_
  clear hK K
  simp only [Act.put, List.setIfInBounds_toArray, List.set_cons_zero, List.set_cons_succ]
  have ci := CI.out ue hBe
  generalize hy : seeded t0 t1 t2 t3 = y at ci ⊢
  have HY := Lib.hid hy
  clear hy
  refine wpThen_step (fun K hK => ?_)
  go_simp
  refine ci.mono ?_
  rintro e uf ⟨rfl, hBf, hpf⟩
  go_simp
  refine hK _ _ (B_past hDe hpf ng) ?_
  clear hK K
  refine wpThen_nil ?_
  go_end0
  refine ⟨rfl, ?_, pe.trans hpf⟩
  rw [H0.out, H1.out, H2.out, H3.out, HY.out]
  exact hBf

set_option maxRecDepth 100000 in
set_option maxHeartbeats 2000000 in
theorem implInit_any (hb : BlockC) (bs : List Y) (hl : bs.length = 32) (w : World) :
    Calls Try.prog 35 #[.agg (b8s bs).toArray] w fun e w' =>
      e = .returned (.agg (seeded (word bs 0) (word bs 8) (word bs 16) (word bs 24)).parts.toArray) ∧ Below w.heap.size w w' := by
  obtain ⟨tk, htk, hx, _⟩ := row_of zero35
  have h57 := Try.underlying57
  have h35 := Try.underlying35
  have bld := buildS
  have cI := fun g w h => stInit_any hb g (u64s (List.replicate 32 0)) (by simp [u64s]) (.int .u64 0) (.int .u64 0) (.int .u64 0) (.int .u64 0) (.int .u32 0) (.int .u32 0) (.int .u32 0) bs hl w h
  rw [← ZS_st] at cI
  generalize hy : seeded (word bs 0) (word bs 8) (word bs 16) (word bs 24) = y at cI ⊢
  have cP := fun g w h => partsOf_any g y (by rw [← hy]; exact seeded_ok _ _ _ _) w h
  clear hy
  have hpl := y.parts_length
  have IP := Lib.hid (show (Try.prog.info? 35).map (·.size) = some y.parts.length by rw [size35, hpl])
  have HPL := Lib.hid (show y.parts.length = Z39.length by rw [hpl, Z39_length])
  have hpo := parts_one y
  clear hpl
  generalize y.cells = C at cI cP
  generalize y.parts = R at cP IP HPL hpo ⊢
  have CI := Lib.hid cI
  have CP := Lib.hid cP
  have IB := Lib.hid (show (Try.prog.info? 57).map (·.size) = some (b8s bs).length by rw [b8s_length, hl]; kernel_rfl)
  clear cI cP
  go_enter Try.func35, Try.ntmps35
  go_wp2_with (first
    | (refine wpList_box rfl 57 _ rfl _ (b8s bs) rfl rfl ?_; intro gs w1 hgs hlt1 hS1 hb1; (try go_frame))
    | (refine wpList_alloc rfl 35 rfl tk _ Z39 htk hx rfl ?_; intro g2 w2 hg2 hlt2 hR2 hb2; (try go_frame); have hS2 := hS1.call hb2; have e2 := below_call hb1 hb1.size hb2)
    | (refine wpList_build0 rfl 68 rfl _ bld ?_; (try go_frame))
    | (refine wpList_box rfl 68 _ rfl _ ZS rfl rfl ?_; intro g3 w3 hg3 hlt3 hG3 hb3; (try go_frame); have hS3 := hS2.call hb3; have hR3 := hR2.call hb3; have e3 := below_call e2 e2.size hb3; have c3 := CI.out g3 w3 hG3; have n32 : g2 ≠ g3 := (by have := hR2.lt; omega); have lg3 : w.heap.size ≤ g3 := (by have := e2.size; omega); have lg2 : w.heap.size ≤ g2 := (by have := hb1.size; omega))
    | (refine wpList_load_all rfl 57 _ rfl gs rfl hS3 h57 rfl IB.out ?_)
    | (go_at_call 55; refine c3.mono ?_; rintro e w4 ⟨rfl, hG4, hp4⟩; have hR4 := B_past hR3 hp4 n32; have e4 := below_past e3 lg3 e3.size hp4; have c4 := CP.out g3 w4 hG4)
    | (go_at_call 48; refine c4.mono ?_; rintro e w5 ⟨rfl, hb5⟩; have hR5 := hR4.call hb5; have e5 := below_call e4 e4.size hb5)
    | (refine wpList_store_all rfl 35 _ _ rfl g2 rfl hR5 R rfl HPL.out hpo IP.out ?_; intro w6 hR6 hO6; (try go_frame); have e6 := e5.trans (hO6.below _ lg2)))
  exact bodyPost_ret (results_block rfl _ _ g2 35 R _ rfl hR6 h35 rfl IP.out) rfl ⟨rfl, e6⟩
end Go.Proofs.Ytjhpffenlhfilaa.Ch
