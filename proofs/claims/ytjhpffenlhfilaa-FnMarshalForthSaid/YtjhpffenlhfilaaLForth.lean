/- The walk of the law on bytes that are unmarshaled and marshaled. -/
import Derived.Test.YtjhpffenlhfilaaSep
import Derived.Test.YtjhpffenlhfilaaWImplUn
namespace Go.Proofs.Ytjhpffenlhfilaa
open Go.RowKit Ch Mem

theorem guard_Forth (S : Array Value) (A : Option Addr) (len cap : Nat) (cut : Value) (h : 100 < len) (W : World) :
    Calls Try.prog 20 #[.agg S, .slice A len cap, cut] W fun e w' => e = .returned (.bool true) ∧ Below W.heap.size W w' := by
  by_cases h1 : 2147483647 < len
  · have h2 : (2147483647 : Int) < (len : Int) := by omega
    go_enter Try.func20, Try.ntmps20
    go_wp2
    go_ret
    exact ⟨rfl, (Below.refl _ _).alloc (Nat.le_refl _) _⟩
  · have h2 : (len : Int) ≤ 2147483647 := by omega
    have h3 : (100 : Int) < (len : Int) := by omega
    go_enter Try.func20, Try.ntmps20
    go_wp2
    go_ret
    exact ⟨rfl, (Below.refl _ _).alloc (Nat.le_refl _) _⟩

def phiMF (M : Nat) (S : List Value) (A : Option Addr) (n c : Nat) (z : List Int) (x : G) : Nat → Fb
  | 0 => .val (.agg S.toArray)
  | 1 => .own M 3 0 []
  | 2 => .val (.slice A n c)
  | 3 => .own M 3 n (steps64 z)
  | 4 => .lit 3 1 [.int .i64 3]
  | 5 => .own M 3 (n + 1) (steps64 (z ++ [3]))
  | 6 => .tup M x (z ++ [3]) (n + 1)
  | 7 => .tup M x (z ++ [3]) (n + 1)
  | 8 => .run M x (z ++ [3]) (n + 1)
  | 9 => .val (.agg (x.run (z ++ [3])).parts.toArray)
  | 10 => .blk 35 Z39
  | 11 => .run M x (z ++ [3]) (n + 1)
  | _ => .nil
theorem lit3_run (w : World) : (Instr.buildSlice 31 1 #[(0, .int .i64 3)]).run Try.prog w = .ok (.slice (some ⟨w.heap.size, 0, none⟩) 1 1) (w.alloc (.cells [.int .i64 3].toArray 3)) := by kernel_rfl
theorem reads_pre {w : World} {g n : Nat} {t : TypeId} {l r : List Value} (h : B w g t (l ++ r)) (hl : l.length = n) : Reads w w.heap.size 1 (some ⟨g, 0, none⟩) n l :=
  ⟨by omega, fun _ => ⟨_, rfl, h.lt, fun j u hu => by rw [Addr.add_mid, Nat.zero_add, h.cell, List.getElem?_append_left (List.getElem?_eq_some_iff.1 hu).1]; exact hu⟩⟩
theorem cut_cases (a : Int) : a < 0 ∨ 48 ≤ a ∨ ∃ n : Nat, n < 48 ∧ a = (n : Int) := by
  by_cases h : a < 0
  · exact .inl h
  · by_cases h2 : 48 ≤ a
    · exact .inr (.inl h2)
    · exact .inr (.inr ⟨a.toNat, by omega, by omega⟩)
theorem mar_next (x : G) (z : List Int) : (x.run ((z ++ [3]).take z.length)).stepK ((z ++ [3]).getD z.length 0) = true ∧ (z ++ [3]).take z.length = z ∧ (z ++ [3]).getD z.length 0 = 3 := by
  have e1 : (z ++ [3]).take z.length = z := by rw [List.take_append, List.take_of_length_le (by omega)]; simp
  have e2 : (z ++ [3]).getD z.length 0 = 3 := by simp [List.getD]
  refine ⟨?_, e1, e2⟩
  rw [e1, e2]
  rfl

set_option maxRecDepth 100000 in
set_option maxHeartbeats 4000000 in
theorem walk_FnMarshalForth (hb : BlockC) (l0 : List Int) (hl0 : l0.length = 4) (w0 : ∀ x ∈ l0, (Lit.int .u64 x).wf = true) (A1 : Option Addr) (len1 cap1 : Nat) (z1 : List Int) (a2 : Int) (w2 : (Lit.int .i64 a2).wf = true) (W : World) (c1 : Came .i64 W A1 len1 cap1 z1) :
    Calls Try.prog 20 #[.agg (Eq.ints .u64 l0), .slice A1 len1 cap1, .int .i64 a2] W fun e w' => e = .returned (.bool true) ∧ Below W.heap.size W w' := by
  by_cases hg : 100 < len1
  · exact guard_Forth _ A1 len1 cap1 _ hg W
  obtain ⟨s0, s1, s2, s3, hs⟩ := seed_of hl0 w0
  rw [hs]
  have n2 : (len1 : Int) ≤ 100 := by omega
  have n3 : (len1 : Int) ≤ 2147483647 := by omega
  have hrd : Reads W W.heap.size 1 A1 len1 (steps64 z1) := c1.reads
  have hzl := c1.length
  obtain ⟨tk, htk, hx, _⟩ := row_of zero35
  have h30 := Try.underlying30
  have hSi : (Try.prog.info? 30).map (·.size) = some (u64s [s0, s1, s2, s3]).length := by kernel_rfl
  clear hl0 w0 hs c1
  go_enter Try.func20, Try.ntmps20
  go_wp2_with (refine wpList_box rfl 30 _ rfl _ (u64s [s0, s1, s2, s3]) rfl rfl ?_; intro gs wS hgs hltS hS hbS; (try go_frame))
  have eS : Below W.heap.size W wS.drew := below_drewN hbS 1
  refine wp_region_facts_tail 12 (okF (phiMF W.heap.size (u64s [s0, s1, s2, s3]) A1 len1 cap1 z1 (seeded s0 s1 s2 s3)))
    (Sep W (fun k => match k with | 24 => 1 | 26 => 1 | 28 => 1 | 27 => 2 | 8 => 3 | _ => 0) gs 30 (u64s [s0, s1, s2, s3]) A1 len1 (steps64 z1))
    (fun j => match j with | 3 => [1, 2] | 5 => [3, 4] | 6 => [0, 5] | 7 => [6] | 8 => [7] | 9 => [7] | 11 => [8] | _ => [])
    (fun j => match j with | 3 => [1] | 5 => [1, 3] | _ => []) (by kernel_rfl) (by kernel_rfl) ?_ ?_ ?_
  · exact Sep.start eS hS.drew (hrd.below eS) 85 rfl (by kernel_rfl)
  · intro j hj
    match j, hj with
    | 0, _ => exact stepF_load rfl rfl rfl rfl _ _ rfl (by kernel_rfl) rfl h30 rfl hSi rfl
    | 1, _ => exact stepF_lit rfl rfl (Nat.le_of_ble_eq_true rfl) rfl _ _ _ rfl [] (fun _ => rfl) _ [] lit0_run (.inr ⟨rfl, rfl, rfl⟩)
    | 2, _ => exact stepF_const rfl rfl rfl rfl _ rfl (by kernel_rfl) _ rfl rfl
    | 3, _ => exact stepF_app rfl rfl (Nat.le_of_ble_eq_true rfl) rfl 1 24 _ rfl _ rfl rfl (by decide) 0 len1 [] (steps64 z1) rfl (.arg 2 25 cap1 _ rfl rfl (by decide) rfl) (steps64_one _) rfl (by decide) (by kernel_rfl) (by omega) (by show Fb.own _ _ _ _ = _; simp)
    | 4, _ => exact stepF_lit rfl rfl (Nat.le_of_ble_eq_true rfl) rfl _ _ _ rfl [(0, .int .i64 3)] (fun _ => rfl) _ [.int .i64 3] lit3_run (.inl rfl)
    | 5, _ => exact stepF_app rfl rfl (Nat.le_of_ble_eq_true rfl) rfl 3 26 _ rfl _ rfl rfl (by decide) len1 1 (steps64 z1) [.int .i64 3] rfl (.lit 4 27 1 _ _ _ rfl rfl (by decide) rfl rfl) (steps64_one [3]) rfl (by decide) (by kernel_rfl) (by omega) (by show Fb.own _ _ _ _ = _; simp [steps64])
    | 6, _ => exact stepF_run hb s0 s1 s2 s3 rfl rfl rfl rfl 0 5 23 28 _ rfl _ _ rfl rfl rfl rfl (by decide) (by decide) rfl (len1 + 1) (by omega) (z1 ++ [3]) rfl rfl
    | 7, _ => exact stepF_mov rfl rfl rfl rfl 6 29 (.inl rfl) _ rfl rfl (by decide) rfl
    | 8, _ => exact stepF_ext rfl rfl rfl rfl 7 22 0 rfl _ rfl rfl (by decide) _ _ _ _ rfl (.inl ⟨rfl, rfl⟩)
    | 9, _ => exact stepF_ext rfl rfl rfl rfl 7 22 1 rfl _ rfl rfl (by decide) _ _ _ _ rfl (.inr ⟨rfl, rfl⟩)
    | 10, _ => exact stepF_alloc rfl rfl (Nat.le_of_ble_eq_true rfl) rfl _ rfl tk _ Z39 htk hx rfl rfl
    | 11, _ => exact stepF_mov rfl rfl rfl rfl 8 30 (.inr rfl) _ rfl rfl (by decide) rfl
  · intro a w hd ht hr hC hf
    have f11 : GoodRun w W.heap.size (seeded s0 s1 s2 s3) (z1 ++ [3]) (len1 + 1) (a.tmps.getD 7 undef) := hf 11 _ (by decide) rfl (by decide)
    have f9 : a.tmps.getD 31 undef = .agg ((seeded s0 s1 s2 s3).run (z1 ++ [3])).parts.toArray := hf 9 _ (by decide) rfl (by decide)
    obtain ⟨g6, f10, B6⟩ : ∃ g, a.tmps.getD 8 undef = ptrTo g ∧ B w g 35 Z39 := hf 10 _ (by decide) rfl (by decide)
    have hS' := hC.seed
    have hb' := hC.below
    have l6 : W.heap.size ≤ g6 := (hC.lt 8 (by decide) g6 (by rw [f10]; rfl)).1
    generalize e23 : a.tmps.getD 23 undef = v23 at *
    generalize e24 : a.tmps.getD 24 undef = v24 at *
    generalize e25 : a.tmps.getD 25 undef = v25 at *
    generalize e26 : a.tmps.getD 26 undef = v26 at *
    generalize e27 : a.tmps.getD 27 undef = v27 at *
    generalize e28 : a.tmps.getD 28 undef = v28 at *
    generalize e29 : a.tmps.getD 29 undef = v29 at *
    generalize e22 : a.tmps.getD 22 undef = v22 at *
    generalize e30 : a.tmps.getD 30 undef = v30 at *
    generalize e7 : a.tmps.getD 7 undef = v7 at *
    obtain rfl := frame_of [(23, v23), (24, v24), (25, v25), (26, v26), (27, v27), (28, v28), (29, v29), (22, v22), (30, v30), (31, _), (8, _), (7, v7)] 85 rfl (by kernel_rfl) hd ht hr (by
      intro p hp
      simp only [List.mem_cons, List.not_mem_nil, or_false] at hp
      rcases hp with rfl | rfl | rfl | rfl | rfl | rfl | rfl | rfl | rfl | rfl | rfl | rfl
      · exact e23
      · exact e24
      · exact e25
      · exact e26
      · exact e27
      · exact e28
      · exact e29
      · exact e22
      · exact e30
      · exact f9
      · exact f10
      · exact e7)
    clear hd ht hr hC hf f9 f10 e23 e24 e25 e26 e27 e28 e29 e22 e30 e7
    simp only [putL, Act.put, List.setIfInBounds_toArray, List.set_cons_zero, List.set_cons_succ, List.drop_succ_cons, List.drop_zero]
    have hx0 := seeded_ok s0 s1 s2 s3
    generalize seeded s0 s1 s2 s3 = x at f11 hx0
    obtain ⟨Ds, hDl, hDo, hown, hlast⟩ := f11
    have h35 := Try.underlying35
    refine wpList_store_all rfl 35 _ _ rfl g6 rfl B6 _ rfl (lParts _) (parts_one _) (iParts _) ?_
    intro w6 A6 o6
    have hown6 := own_only hown B6 (by decide) o6
    have hlast6 := LastD.only hlast B6 (by decide) o6
    have b6 : Below W.heap.size W w6 := hb'.trans (o6.below _ l6)
    obtain ⟨Av, cv, rfl, hvf⟩ := own_slice hown6
    obtain ⟨g5, r5, rfl, hg5, hc5, B5⟩ := hvf (by omega)
    obtain ⟨hK, hT, h3⟩ := mar_next x z1
    rw [hzl] at hK hT h3
    have hlen : (z1 ++ [3]).length = len1 + 1 := by simp [hzl]
    obtain ⟨a1, _, a3⟩ := anss_get x (z1 ++ [3]) Ds len1 (by omega) (by omega)
    rw [hK] at a1
    obtain ⟨gd, cd, rd, hDs, hgd, hcd, hDB⟩ := hlast6 len1 rfl h3
    rw [hDs] at a3
    rw [hT] at hDB
    have q : w6.cell? ⟨g5, len1 * 3, none⟩ = some (.bool true) := (B5.cell _).trans (by rw [List.getElem?_append_left (by have := hown6.1; omega)]; exact a1)
    have q2 : w6.cell? ⟨g5, len1 * 3 + 2, none⟩ = some (.slice (some ⟨gd, 0, none⟩) 48 cd) := (B5.cell _).trans (by rw [List.getElem?_append_left (by have := hown6.1; omega)]; exact a3)
    have hyok := G.run_ok hx0 z1
    clear hvf hown6 hown a1 a3 hK hT h3 hDs B5 B6 A6 o6 hrd hS' hS hbS hb' eS hlast hlast6
    have v1 : IntKind.i64.wrap ((len1 : Int) + 1) = (len1 : Int) + 1 := by rw [IntKind.wrap_i64]; omega
    have v4 : (len1 : Int) < ((len1 + 1 : Nat) : Int) := by omega
    have v6 : ((len1 + 1 : Nat) : Int) = (len1 : Int) + 1 := by omega
    have hml : (x.run z1).mar.length = 48 := (x.run z1).mar_length
    have hval := mar_valid _ hyok
    generalize (x.run z1).mar = bs at hDB hml hval
    have CU := Lib.hid (fun w (h : B w gd 5 (b8s bs ++ rd)) => implUn_ok hb ⟨gd, 0, none⟩ cd bs w.heap.size w (reads_pre h (by rw [b8s_length, hml])) (Nat.le_refl _) hval)
    have SA := Lib.hid (fun g g' c c' r r' w h h' => same_any g g' 48 c c' bs r r' hml w h h')
    clear hval
    rcases cut_cases a2 with h1 | h1 | ⟨n, hn, rfl⟩
    · have h2 : a2 < 0 := h1
      go_wp2_with (first
        | (go_at_call 25; refine (CU.out w6 hDB).mono ?_; rintro e w7 ⟨gq, cq, rq, rfl, hgq, hcq, hQ7, hb7⟩; have hD7 := hDB.call hb7; have e7 := below_call b6 b6.size hb7)
        | (refine wpList_alloc rfl 35 rfl tk _ Z39 htk hx rfl ?_; intro gp w8 hgp hlt8 hP8 hb8; (try go_frame); have hQ8 := hQ7.call hb8; have hD8 := hD7.call hb8; have e8 := below_call e7 e7.size hb8; have lgp : W.heap.size ≤ gp := (by have := e7.size; omega); have nqp : gq ≠ gp := hQ8.ne_ hP8 (by decide); have ndp : gd ≠ gp := hD8.ne_ hP8 (by decide))
        | (refine wpList_store_all rfl 35 _ _ rfl gp rfl hP8 _ rfl (lParts _) (parts_one _) (iParts _) ?_; intro w9 hP9 hO9; (try go_frame); have hQ9 := hQ8.only hO9 nqp; have hD9 := hD8.only hO9 ndp; have e9 := e8.trans (hO9.below _ lgp))
        | (go_at_call 26; refine (SA.out gq gd cq cd rq rd w9 hQ9 hD9).mono ?_; rintro e wA ⟨rfl, hbA⟩; have hDA := hD9.call hbA; have eA := below_call e9 e9.size hbA))
      go_ret
      exact ⟨rfl, eA⟩
    · have h2 : (48 : Int) ≤ a2 := h1
      have h3 : (0 : Int) ≤ a2 := by omega
      go_wp2_with (first
        | (go_at_call 25; refine (CU.out w6 hDB).mono ?_; rintro e w7 ⟨gq, cq, rq, rfl, hgq, hcq, hQ7, hb7⟩; have hD7 := hDB.call hb7; have e7 := below_call b6 b6.size hb7)
        | (refine wpList_alloc rfl 35 rfl tk _ Z39 htk hx rfl ?_; intro gp w8 hgp hlt8 hP8 hb8; (try go_frame); have hQ8 := hQ7.call hb8; have hD8 := hD7.call hb8; have e8 := below_call e7 e7.size hb8; have lgp : W.heap.size ≤ gp := (by have := e7.size; omega); have nqp : gq ≠ gp := hQ8.ne_ hP8 (by decide); have ndp : gd ≠ gp := hD8.ne_ hP8 (by decide))
        | (refine wpList_store_all rfl 35 _ _ rfl gp rfl hP8 _ rfl (lParts _) (parts_one _) (iParts _) ?_; intro w9 hP9 hO9; (try go_frame); have hQ9 := hQ8.only hO9 nqp; have hD9 := hD8.only hO9 ndp; have e9 := e8.trans (hO9.below _ lgp))
        | (go_at_call 26; refine (SA.out gq gd cq cd rq rd w9 hQ9 hD9).mono ?_; rintro e wA ⟨rfl, hbA⟩; have hDA := hD9.call hbA; have eA := below_call e9 e9.size hbA))
      go_ret
      exact ⟨rfl, eA⟩
    · have h2 : (n : Int) < 48 := by omega
      have h3 : (0 : Int) ≤ (n : Int) := by omega
      have h4 : (n : Int) ≤ (cd : Int) := by omega
      have h5 : n ≤ cd := by omega
      have iZ : (Try.prog.info? 35).map (·.size) = some Z39.length := by rw [size35]; rfl
      have hOneZ : ∀ v ∈ Z39, v.oneCell' = true := by decide
      have CB := Lib.hid (fun w (h : B w gd 5 (b8s bs ++ rd)) => implUn_bad ⟨gd, 0, none⟩ n cd (bs.take n) w.heap.size w (reads_pre (l := b8s (bs.take n)) (r := b8s (bs.drop n) ++ rd) (by rw [← List.append_assoc, ← b8s_append, List.take_append_drop]; exact h) (by rw [b8s_length, List.length_take, hml]; omega)) (Nat.le_refl _) (by omega) (fun hv => by have := hv.1; rw [List.length_take, hml] at this; omega))
      go_wp2_with (first
        | (go_at_call 25; refine (CB.out wA hDA).mono ?_; rintro e wB ⟨rfl, hbB⟩; have eB := below_call eA eA.size hbB)
        | (refine wpList_alloc rfl 35 rfl tk _ Z39 htk hx rfl ?_; intro gr wC hgr hltC hPC hbC; (try go_frame); have eC := below_call eB eB.size hbC; have lgr : W.heap.size ≤ gr := (by have := eB.size; omega))
        | (refine wpList_store_all rfl 35 _ _ rfl gr rfl hPC Z39 rfl rfl hOneZ iZ ?_; intro wD hPD hOD; (try go_frame); have eD := eC.trans (hOD.below _ lgr))
        | (go_at_call 25; refine (CU.out w6 hDB).mono ?_; rintro e w7 ⟨gq, cq, rq, rfl, hgq, hcq, hQ7, hb7⟩; have hD7 := hDB.call hb7; have e7 := below_call b6 b6.size hb7)
        | (refine wpList_alloc rfl 35 rfl tk _ Z39 htk hx rfl ?_; intro gp w8 hgp hlt8 hP8 hb8; (try go_frame); have hQ8 := hQ7.call hb8; have hD8 := hD7.call hb8; have e8 := below_call e7 e7.size hb8; have lgp : W.heap.size ≤ gp := (by have := e7.size; omega); have nqp : gq ≠ gp := hQ8.ne_ hP8 (by decide); have ndp : gd ≠ gp := hD8.ne_ hP8 (by decide))
        | (refine wpList_store_all rfl 35 _ _ rfl gp rfl hP8 _ rfl (lParts _) (parts_one _) (iParts _) ?_; intro w9 hP9 hO9; (try go_frame); have hQ9 := hQ8.only hO9 nqp; have hD9 := hD8.only hO9 ndp; have e9 := e8.trans (hO9.below _ lgp))
        | (go_at_call 26; refine (SA.out gq gd cq cd rq rd w9 hQ9 hD9).mono ?_; rintro e wA ⟨rfl, hbA⟩; have hDA := hD9.call hbA; have eA := below_call e9 e9.size hbA))
      go_ret
      exact ⟨rfl, eD⟩
end Go.Proofs.Ytjhpffenlhfilaa
