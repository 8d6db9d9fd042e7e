/- The walk of the law on bytes that are a state. -/
import Derived.Test.YtjhpffenlhfilaaLForth
namespace Go.Proofs.Ytjhpffenlhfilaa
open Go.RowKit Ch Mem

theorem byte_of {a : Int} (w : (Lit.int .u8 a).wf = true) : ∃ y : Y, a = n8 y := by
  simp [Lit.wf, IntKind.min, IntKind.max, IntKind.signed, IntKind.bits] at w
  refine ⟨BitVec.ofNat 8 a.toNat, ?_⟩
  unfold n8
  rw [BitVec.toNat_ofNat]
  omega

theorem guard_Un (S : Array Value) (A : Option Addr) (len cap : Nat) (cut x : Value) (h : 100 < len) (W : World) :
    Calls Try.prog 6 #[.agg S, .slice A len cap, cut, x] W fun e w' => e = .returned (.bool true) ∧ Below W.heap.size W w' := by
  by_cases h1 : 2147483647 < len
  · have h2 : (2147483647 : Int) < (len : Int) := by omega
    go_enter Try.func6, Try.ntmps6
    go_wp2
    go_ret
    exact ⟨rfl, (Below.refl _ _).alloc (Nat.le_refl _) _⟩
  · have h2 : (len : Int) ≤ 2147483647 := by omega
    have h3 : (100 : Int) < (len : Int) := by omega
    go_enter Try.func6, Try.ntmps6
    go_wp2
    go_ret
    exact ⟨rfl, (Below.refl _ _).alloc (Nat.le_refl _) _⟩

set_option maxRecDepth 100000 in
set_option maxHeartbeats 4000000 in
theorem walk_FnUnmarshal (hb : BlockC) (l0 : List Int) (hl0 : l0.length = 4) (w0 : ∀ x ∈ l0, (Lit.int .u64 x).wf = true) (A1 : Option Addr) (len1 cap1 : Nat) (z1 : List Int) (a2 : Int) (w2 : (Lit.int .i64 a2).wf = true) (a3 : Int) (w3 : (Lit.int .u8 a3).wf = true) (W : World) (c1 : Came .i64 W A1 len1 cap1 z1) :
    Calls Try.prog 6 #[.agg (Eq.ints .u64 l0), .slice A1 len1 cap1, .int .i64 a2, .int .u8 a3] W fun e w' => e = .returned (.bool true) ∧ Below W.heap.size W w' := by
  by_cases hg : 100 < len1
  · exact guard_Un _ A1 len1 cap1 _ _ hg W
  obtain ⟨s0, s1, s2, s3, hs⟩ := seed_of hl0 w0
  rw [hs]
  have n2 : (len1 : Int) ≤ 100 := by omega
  have n3 : (len1 : Int) ≤ 2147483647 := by omega
  have hrd : Reads W W.heap.size 1 A1 len1 (steps64 z1) := c1.reads
  have hzl := c1.length
  obtain ⟨tk, htk, hx, _⟩ := row_of zero35
  have h30 := Try.underlying30
  have hSi : (Try.prog.info? 30).map (·.size) = some (u64s [s0, s1, s2, s3]).length := by kernel_rfl
  clear hl0 w0 hs c1
  go_enter Try.func6, Try.ntmps6
  go_wp2_with (refine wpList_box rfl 30 _ rfl _ (u64s [s0, s1, s2, s3]) rfl rfl ?_; intro gs wS hgs hltS hS hbS; (try go_frame))
  have eS : Below W.heap.size W wS.drew := below_drewN hbS 1
  refine wp_region_facts_tail 12 (okF (phiMF W.heap.size (u64s [s0, s1, s2, s3]) A1 len1 cap1 z1 (seeded s0 s1 s2 s3)))
    (Sep W (fun k => match k with | 23 => 1 | 25 => 1 | 27 => 1 | 26 => 2 | 10 => 3 | _ => 0) gs 30 (u64s [s0, s1, s2, s3]) A1 len1 (steps64 z1))
    (fun j => match j with | 3 => [1, 2] | 5 => [3, 4] | 6 => [0, 5] | 7 => [6] | 8 => [7] | 9 => [7] | 11 => [8] | _ => [])
    (fun j => match j with | 3 => [1] | 5 => [1, 3] | _ => []) (by kernel_rfl) (by kernel_rfl) ?_ ?_ ?_
  · exact Sep.start eS hS.drew (hrd.below eS) 80 rfl (by kernel_rfl)
  · intro j hj
    match j, hj with
    | 0, _ => exact stepF_load rfl rfl rfl rfl _ _ rfl (by kernel_rfl) rfl h30 rfl hSi rfl
    | 1, _ => exact stepF_lit rfl rfl (Nat.le_of_ble_eq_true rfl) rfl _ _ _ rfl [] (fun _ => rfl) _ [] lit0_run (.inr ⟨rfl, rfl, rfl⟩)
    | 2, _ => exact stepF_const rfl rfl rfl rfl _ rfl (by kernel_rfl) _ rfl rfl
    | 3, _ => exact stepF_app rfl rfl (Nat.le_of_ble_eq_true rfl) rfl 1 23 _ rfl _ rfl rfl (by decide) 0 len1 [] (steps64 z1) rfl (.arg 2 24 cap1 _ rfl rfl (by decide) rfl) (steps64_one _) rfl (by decide) (by kernel_rfl) (by omega) (by show Fb.own _ _ _ _ = _; simp)
    | 4, _ => exact stepF_lit rfl rfl (Nat.le_of_ble_eq_true rfl) rfl _ _ _ rfl [(0, .int .i64 3)] (fun _ => rfl) _ [.int .i64 3] lit3_run (.inl rfl)
    | 5, _ => exact stepF_app rfl rfl (Nat.le_of_ble_eq_true rfl) rfl 3 25 _ rfl _ rfl rfl (by decide) len1 1 (steps64 z1) [.int .i64 3] rfl (.lit 4 26 1 _ _ _ rfl rfl (by decide) rfl rfl) (steps64_one [3]) rfl (by decide) (by kernel_rfl) (by omega) (by show Fb.own _ _ _ _ = _; simp [steps64])
    | 6, _ => exact stepF_run hb s0 s1 s2 s3 rfl rfl rfl rfl 0 5 22 27 _ rfl _ _ rfl rfl rfl rfl (by decide) (by decide) rfl (len1 + 1) (by omega) (z1 ++ [3]) rfl rfl
    | 7, _ => exact stepF_mov rfl rfl rfl rfl 6 28 (.inl rfl) _ rfl rfl (by decide) rfl
    | 8, _ => exact stepF_ext rfl rfl rfl rfl 7 21 0 rfl _ rfl rfl (by decide) _ _ _ _ rfl (.inl ⟨rfl, rfl⟩)
    | 9, _ => exact stepF_ext rfl rfl rfl rfl 7 21 1 rfl _ rfl rfl (by decide) _ _ _ _ rfl (.inr ⟨rfl, rfl⟩)
    | 10, _ => exact stepF_alloc rfl rfl (Nat.le_of_ble_eq_true rfl) rfl _ rfl tk _ Z39 htk hx rfl rfl
    | 11, _ => exact stepF_mov rfl rfl rfl rfl 8 29 (.inr rfl) _ rfl rfl (by decide) rfl
  · intro a w hd ht hr hC hf
    have f11 : GoodRun w W.heap.size (seeded s0 s1 s2 s3) (z1 ++ [3]) (len1 + 1) (a.tmps.getD 9 undef) := hf 11 _ (by decide) rfl (by decide)
    have f9 : a.tmps.getD 30 undef = .agg ((seeded s0 s1 s2 s3).run (z1 ++ [3])).parts.toArray := hf 9 _ (by decide) rfl (by decide)
    obtain ⟨g6, f10, B6⟩ : ∃ g, a.tmps.getD 10 undef = ptrTo g ∧ B w g 35 Z39 := hf 10 _ (by decide) rfl (by decide)
    have hS' := hC.seed
    have hb' := hC.below
    have l6 : W.heap.size ≤ g6 := (hC.lt 10 (by decide) g6 (by rw [f10]; rfl)).1
    generalize e22 : a.tmps.getD 22 undef = v22 at *
    generalize e23 : a.tmps.getD 23 undef = v23 at *
    generalize e24 : a.tmps.getD 24 undef = v24 at *
    generalize e25 : a.tmps.getD 25 undef = v25 at *
    generalize e26 : a.tmps.getD 26 undef = v26 at *
    generalize e27 : a.tmps.getD 27 undef = v27 at *
    generalize e28 : a.tmps.getD 28 undef = v28 at *
    generalize e21 : a.tmps.getD 21 undef = v21 at *
    generalize e29 : a.tmps.getD 29 undef = v29 at *
    generalize e9 : a.tmps.getD 9 undef = v9 at *
    obtain rfl := frame_of [(22, v22), (23, v23), (24, v24), (25, v25), (26, v26), (27, v27), (28, v28), (21, v21), (29, v29), (30, _), (10, _), (9, v9)] 80 rfl (by kernel_rfl) hd ht hr (by
      intro p hp
      simp only [List.mem_cons, List.not_mem_nil, or_false] at hp
      rcases hp with rfl | rfl | rfl | rfl | rfl | rfl | rfl | rfl | rfl | rfl | rfl | rfl
      · exact e22
      · exact e23
      · exact e24
      · exact e25
      · exact e26
      · exact e27
      · exact e28
      · exact e21
      · exact e29
      · exact f9
      · exact f10
      · exact e9)
    clear hd ht hr hC hf f9 f10 e22 e23 e24 e25 e26 e27 e28 e21 e29 e9
    simp only [putL, Act.put, List.setIfInBounds_toArray, List.set_cons_zero, List.set_cons_succ, List.drop_succ_cons, List.drop_zero]
    have hx0 := seeded_ok s0 s1 s2 s3
    generalize seeded s0 s1 s2 s3 = x at f11 hx0
    obtain ⟨Ds, hDl, hDo, hown, hlast⟩ := f11
    have h35 := Try.underlying35
    refine wpList_store_all rfl 35 _ _ rfl g6 rfl B6 _ rfl (lParts _) (parts_one _) (iParts _) ?_
    intro w6 A6 o6
    have hown6 := own_only hown B6 (by decide) o6
    have hlast6 := LastD.only hlast B6 (by decide) o6
    have b6 : Below W.heap.size W w6 := hb'.trans (o6.below _ l6)
    obtain ⟨Av, cv, rfl, hvf⟩ := own_slice hown6
    obtain ⟨g5, r5, rfl, hg5, hc5, B5⟩ := hvf (by omega)
    obtain ⟨hK, hT, h3⟩ := mar_next x z1
    rw [hzl] at hK hT h3
    have hlen : (z1 ++ [3]).length = len1 + 1 := by simp [hzl]
    obtain ⟨a1, _, a3⟩ := anss_get x (z1 ++ [3]) Ds len1 (by omega) (by omega)
    rw [hK] at a1
    obtain ⟨gd, cd, rd, hDs, hgd, hcd, hDB⟩ := hlast6 len1 rfl h3
    rw [hDs] at a3
    rw [hT] at hDB
    have q : w6.cell? ⟨g5, len1 * 3, none⟩ = some (.bool true) := (B5.cell _).trans (by rw [List.getElem?_append_left (by have := hown6.1; omega)]; exact a1)
    have q2 : w6.cell? ⟨g5, len1 * 3 + 2, none⟩ = some (.slice (some ⟨gd, 0, none⟩) 48 cd) := (B5.cell _).trans (by rw [List.getElem?_append_left (by have := hown6.1; omega)]; exact a3)
    have hyok := G.run_ok hx0 z1
    have hg5lt : g5 < w6.heap.size := B5.lt
    clear hvf hown6 hown a1 a3 hK hT h3 hDs B5 B6 A6 o6 hrd hS' hS hbS hb' eS hlast hlast6
    have v1 : IntKind.i64.wrap ((len1 : Int) + 1) = (len1 : Int) + 1 := by rw [IntKind.wrap_i64]; omega
    have v4 : (len1 : Int) < ((len1 + 1 : Nat) : Int) := by omega
    have v6 : ((len1 + 1 : Nat) : Int) = (len1 : Int) + 1 := by omega
    have hml : (x.run z1).mar.length = 48 := (x.run z1).mar_length
    have hval := mar_valid _ hyok
    generalize (x.run z1).mar = bs at hDB hml hval
    obtain ⟨y, rfl⟩ := byte_of w3
    obtain ⟨i0, hi0, hz0, hz1, hz2⟩ := info_parts info5
    have hown0 : (w6.alloc (.cells #[] 5)).ownsRow w6.heap.size 5 1 (.slice (some ⟨w6.heap.size, 0, none⟩) 0 0) 0 [] := World.ownsRow_lit w6 #[] 0 (Nat.le_refl _) (by unfold maxLen; omega) rfl
    have hone := b8s_one bs
    have hrd : Reads (w6.alloc (.cells #[] 5)) w6.heap.size 1 (some ⟨gd, 0, none⟩) 48 (b8s bs) := Reads.alloc (reads_pre hDB (by rw [b8s_length, hml])) (Nat.le_refl _) _
    have p2 : (w6.alloc (.cells #[] 5)).cell? ⟨g5, len1 * 3 + 2, none⟩ = some (.slice (some ⟨gd, 0, none⟩) 48 cd) := (World.cell?_alloc_lt w6 _ ⟨g5, len1 * 3 + 2, none⟩ hg5lt).trans q2
    have UOK := Lib.hid (fun w g c bs r (h : B w g 5 (b8s bs ++ r)) hv => implUn_ok hb ⟨g, 0, none⟩ c bs w.heap.size w (reads_pre h (by rw [b8s_length, hv.1])) (Nat.le_refl _) hv)
    have UBAD := Lib.hid (fun w g c bs r (h : B w g 5 (b8s bs ++ r)) (hl : bs.length = 48) hv => implUn_bad ⟨g, 0, none⟩ 48 c bs w.heap.size w (reads_pre h (by rw [b8s_length, hl])) (Nat.le_refl _) (by omega) hv)
    have SA := Lib.hid (fun g g' c c' bs r r' (hl : bs.length = 48) w h h' => same_any g g' 48 c c' bs r r' hl w h h')
    have HVAL := Lib.hid hval
    have HI0 := Lib.hid hi0
    have iZ : (Try.prog.info? 35).map (·.size) = some Z39.length := by rw [size35]; rfl
    have hOneZ : ∀ v ∈ Z39, v.oneCell' = true := by decide
    clear hval
    have HML := Lib.hid hml
    clear hi0
    rcases cut_cases a2 with h1 | h1 | ⟨n, hn, rfl⟩
    · have h2 : a2 < 0 := h1
      go_wp2_with (first
        | (at_builtin; refine wpList_append_any _ rfl (.tmp 47) (.tmp 53) _ rfl w6.heap.size 5 i0 _ 1 1 Try.underlying38 HI0.out hz0 hz1 hz2 rfl (by omega) (.slice (some ⟨w6.heap.size, 0, none⟩) 0 0) 0 [] rfl hown0 w6.heap.size (some ⟨gd, 0, none⟩) 48 cd (b8s bs) rfl hrd hone (by simp only [maxLen]; omega) (by omega) (by simp) ?_; intro v8 w9 hown8 hg8 hat8; rw [List.nil_append, Nat.zero_add] at hown8; obtain ⟨gq, cq, rq, rfl, hgq, hcq, hQ9⟩ := own_B hown8 (by omega); have e9 := below_call b6 b6.size (((Below.refl _ _).alloc (Nat.le_refl _) _).grown hg8 (by simp) (fun k hk => by simp [Value.ownBlock] at hk; omega)))
        | (go_at_call 25; refine (UOK.out w9 gq cq bs rq hQ9 HVAL.out).mono ?_; rintro e wA ⟨ga, ca, ra, rfl, hga, hca, hRA, hbA⟩; have hQA := hQ9.call hbA; have eA := below_call e9 e9.size hbA)
        | (refine wpList_alloc rfl 35 rfl tk _ Z39 htk hx rfl ?_; intro gp wB hgp hltB hPB hbB; (try go_frame); have hRB := hRA.call hbB; have hQB := hQA.call hbB; have eB := below_call eA eA.size hbB; have lgp : W.heap.size ≤ gp := (by have := eA.size; omega); have nap : ga ≠ gp := hRB.ne_ hPB (by decide); have nqp : gq ≠ gp := hQB.ne_ hPB (by decide))
        | (refine wpList_store_all rfl 35 _ _ rfl gp rfl hPB _ rfl (lParts _) (parts_one _) (iParts _) ?_; intro wC hPC hOC; (try go_frame); have hRC := hRB.only hOC nap; have hQC := hQB.only hOC nqp; have eC := eB.trans (hOC.below _ lgp))
        | (go_at_call 26; refine (SA.out ga gq ca cq bs ra rq HML.out wC hRC hQC).mono ?_; rintro e wD ⟨rfl, hbD⟩; have eD := below_call eC eC.size hbD))
      go_ret
      exact ⟨rfl, eD⟩
    · have h2 : (48 : Int) ≤ a2 := h1
      have h3 : (0 : Int) ≤ a2 := by omega
      go_wp2_with (first
        | (at_builtin; refine wpList_append_any _ rfl (.tmp 47) (.tmp 53) _ rfl w6.heap.size 5 i0 _ 1 1 Try.underlying38 HI0.out hz0 hz1 hz2 rfl (by omega) (.slice (some ⟨w6.heap.size, 0, none⟩) 0 0) 0 [] rfl hown0 w6.heap.size (some ⟨gd, 0, none⟩) 48 cd (b8s bs) rfl hrd hone (by simp only [maxLen]; omega) (by omega) (by simp) ?_; intro v8 w9 hown8 hg8 hat8; rw [List.nil_append, Nat.zero_add] at hown8; obtain ⟨gq, cq, rq, rfl, hgq, hcq, hQ9⟩ := own_B hown8 (by omega); have e9 := below_call b6 b6.size (((Below.refl _ _).alloc (Nat.le_refl _) _).grown hg8 (by simp) (fun k hk => by simp [Value.ownBlock] at hk; omega)))
        | (go_at_call 25; refine (UOK.out w9 gq cq bs rq hQ9 HVAL.out).mono ?_; rintro e wA ⟨ga, ca, ra, rfl, hga, hca, hRA, hbA⟩; have hQA := hQ9.call hbA; have eA := below_call e9 e9.size hbA)
        | (refine wpList_alloc rfl 35 rfl tk _ Z39 htk hx rfl ?_; intro gp wB hgp hltB hPB hbB; (try go_frame); have hRB := hRA.call hbB; have hQB := hQA.call hbB; have eB := below_call eA eA.size hbB; have lgp : W.heap.size ≤ gp := (by have := eA.size; omega); have nap : ga ≠ gp := hRB.ne_ hPB (by decide); have nqp : gq ≠ gp := hQB.ne_ hPB (by decide))
        | (refine wpList_store_all rfl 35 _ _ rfl gp rfl hPB _ rfl (lParts _) (parts_one _) (iParts _) ?_; intro wC hPC hOC; (try go_frame); have hRC := hRB.only hOC nap; have hQC := hQB.only hOC nqp; have eC := eB.trans (hOC.below _ lgp))
        | (go_at_call 26; refine (SA.out ga gq ca cq bs ra rq HML.out wC hRC hQC).mono ?_; rintro e wD ⟨rfl, hbD⟩; have eD := below_call eC eC.size hbD))
      go_ret
      exact ⟨rfl, eD⟩
    · have h2 : (n : Int) < 48 := by omega
      have h3 : (0 : Int) ≤ (n : Int) := by omega
      have hset : ∀ r, (b8s bs ++ r).set n (.int .u8 (n8 y)) = b8s (bs.set n y) ++ r := fun r => by
        rw [List.set_append_left _ _ (by rw [b8s_length, hml]; exact hn)]
        simp [b8s, List.map_set]
      have hsl : (bs.set n y).length = 48 := by rw [List.length_set, hml]
      have HSET := Lib.hid hset
      have HSL := Lib.hid hsl
      clear hset hsl
      by_cases hv : validB (bs.set n y)
      · have HV := Lib.hid hv
        clear hv
        go_wp2_with (first
          | (at_builtin; refine wpList_append_any _ rfl (.tmp 47) (.tmp 53) _ rfl w6.heap.size 5 i0 _ 1 1 Try.underlying38 HI0.out hz0 hz1 hz2 rfl (by omega) (.slice (some ⟨w6.heap.size, 0, none⟩) 0 0) 0 [] rfl hown0 w6.heap.size (some ⟨gd, 0, none⟩) 48 cd (b8s bs) rfl hrd hone (by simp only [maxLen]; omega) (by omega) (by simp) ?_; intro v8 w8 hown8 hg8 hat8; rw [List.nil_append, Nat.zero_add] at hown8; obtain ⟨gq, cq, rq, rfl, hgq, hcq, hQ8⟩ := own_B hown8 (by omega); have e8 := below_call b6 b6.size (((Below.refl _ _).alloc (Nat.le_refl _) _).grown hg8 (by simp) (fun k hk => by simp [Value.ownBlock] at hk; omega)))
          | (refine wpList_store_one rfl 5 _ _ rfl gq n rfl hQ8 (.int .u8 (n8 y)) rfl (by rw [List.length_append, b8s_length, HML.out]; omega) rfl (by kernel_rfl) ?_; intro w9 hQ9' hO9; (try go_frame); have hQ9 : B w9 gq 5 (b8s (bs.set n y) ++ rq) := (by rw [← HSET.out rq]; exact hQ9'); have e9 := e8.trans (hO9.below _ (by have := b6.size; omega)))
          | (go_at_call 25; refine (UOK.out w9 gq cq (bs.set n y) rq hQ9 HV.out).mono ?_; rintro e wA ⟨ga, ca, ra, rfl, hga, hca, hRA, hbA⟩; have hQA := hQ9.call hbA; have eA := below_call e9 e9.size hbA)
          | (refine wpList_alloc rfl 35 rfl tk _ Z39 htk hx rfl ?_; intro gp wB hgp hltB hPB hbB; (try go_frame); have hRB := hRA.call hbB; have hQB := hQA.call hbB; have eB := below_call eA eA.size hbB; have lgp : W.heap.size ≤ gp := (by have := eA.size; omega); have nap : ga ≠ gp := hRB.ne_ hPB (by decide); have nqp : gq ≠ gp := hQB.ne_ hPB (by decide))
          | (refine wpList_store_all rfl 35 _ _ rfl gp rfl hPB _ rfl (lParts _) (parts_one _) (iParts _) ?_; intro wC hPC hOC; (try go_frame); have hRC := hRB.only hOC nap; have hQC := hQB.only hOC nqp; have eC := eB.trans (hOC.below _ lgp))
          | (go_at_call 26; refine (SA.out ga gq ca cq (bs.set n y) ra rq HSL.out wC hRC hQC).mono ?_; rintro e wD ⟨rfl, hbD⟩; have eD := below_call eC eC.size hbD))
        go_ret
        exact ⟨rfl, eD⟩
      · have HNV := Lib.hid hv
        clear hv
        go_wp2_with (first
          | (at_builtin; refine wpList_append_any _ rfl (.tmp 47) (.tmp 53) _ rfl w6.heap.size 5 i0 _ 1 1 Try.underlying38 HI0.out hz0 hz1 hz2 rfl (by omega) (.slice (some ⟨w6.heap.size, 0, none⟩) 0 0) 0 [] rfl hown0 w6.heap.size (some ⟨gd, 0, none⟩) 48 cd (b8s bs) rfl hrd hone (by simp only [maxLen]; omega) (by omega) (by simp) ?_; intro v8 w8 hown8 hg8 hat8; rw [List.nil_append, Nat.zero_add] at hown8; obtain ⟨gq, cq, rq, rfl, hgq, hcq, hQ8⟩ := own_B hown8 (by omega); have e8 := below_call b6 b6.size (((Below.refl _ _).alloc (Nat.le_refl _) _).grown hg8 (by simp) (fun k hk => by simp [Value.ownBlock] at hk; omega)))
          | (refine wpList_store_one rfl 5 _ _ rfl gq n rfl hQ8 (.int .u8 (n8 y)) rfl (by rw [List.length_append, b8s_length, HML.out]; omega) rfl (by kernel_rfl) ?_; intro w9 hQ9' hO9; (try go_frame); have hQ9 : B w9 gq 5 (b8s (bs.set n y) ++ rq) := (by rw [← HSET.out rq]; exact hQ9'); have e9 := e8.trans (hO9.below _ (by have := b6.size; omega)))
          | (go_at_call 25; refine (UBAD.out w9 gq cq (bs.set n y) rq hQ9 HSL.out HNV.out).mono ?_; rintro e wA ⟨rfl, hbA⟩; have eA := below_call e9 e9.size hbA)
          | (refine wpList_alloc rfl 35 rfl tk _ Z39 htk hx rfl ?_; intro gp wB hgp hltB hPB hbB; (try go_frame); have eB := below_call eA eA.size hbB; have lgp : W.heap.size ≤ gp := (by have := eA.size; omega))
          | (refine wpList_store_all rfl 35 _ _ rfl gp rfl hPB Z39 rfl rfl hOneZ iZ ?_; intro wC hPC hOC; (try go_frame); have eC := eB.trans (hOC.below _ lgp)))
        go_ret
        exact ⟨rfl, eC⟩
end Go.Proofs.Ytjhpffenlhfilaa
