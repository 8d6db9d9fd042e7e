/- The walk of the law on a number behind a refill. -/
import Derived.Test.YtjhpffenlhfilaaSep
namespace Go.Proofs.Ytjhpffenlhfilaa
open Go.RowKit Ch Mem

theorem seeded_i (s0 s1 s2 s3 : V) : (seeded s0 s1 s2 s3).i = 0 := rfl
theorem refill_i (x : G) : x.refill.i = 0 := by
  unfold G.refill
  split
  · rfl
  · rfl
theorem n_pos (x : G) : 0 < x.n := by
  unfold G.n
  split <;> omega
theorem refill_next (x : G) (z : List Int) : (x.run ((z ++ [1, 0]).take (z.length + 1))).stepK ((z ++ [1, 0]).getD (z.length + 1) 0) = true := by
  have e1 : (z ++ [1, 0]).take (z.length + 1) = z ++ [1] := by rw [List.take_append, List.take_of_length_le (by omega)]; simp
  have e2 : (z ++ [1, 0]).getD (z.length + 1) 0 = 0 := by simp [List.getD]
  rw [e1, e2, G.run_append]
  show decide ((x.run z).refill.i < (x.run z).refill.n) = true
  rw [refill_i, decide_eq_true (n_pos _)]

theorem guard_Refill (S : Array Value) (A : Option Addr) (len cap : Nat) (h : 200 < len) (W : World) :
    Calls Try.prog 19 #[.agg S, .slice A len cap] W fun e w' => e = .returned (.bool true) ∧ Below W.heap.size W w' := by
  by_cases h1 : 2147483647 < len
  · have h2 : (2147483647 : Int) < (len : Int) := by omega
    go_enter Try.func19, Try.ntmps19
    go_wp2
    go_ret
    exact ⟨rfl, (Below.refl _ _).alloc (Nat.le_refl _) _⟩
  · have h2 : (len : Int) ≤ 2147483647 := by omega
    have h3 : (200 : Int) < (len : Int) := by omega
    go_enter Try.func19, Try.ntmps19
    go_wp2
    go_ret
    exact ⟨rfl, (Below.refl _ _).alloc (Nat.le_refl _) _⟩

def phiRN (M : Nat) (S : List Value) (A : Option Addr) (n c : Nat) (z : List Int) (x : G) : Nat → Fb
  | 0 => .val (.agg S.toArray)
  | 1 => .own M 3 0 []
  | 2 => .val (.slice A n c)
  | 3 => .own M 3 n (steps64 z)
  | 4 => .lit 3 2 [.int .i64 1, .int .i64 0]
  | 5 => .own M 3 (n + 2) (steps64 (z ++ [1, 0]))
  | 6 => .tup M x (z ++ [1, 0]) (n + 2)
  | 7 => .tup M x (z ++ [1, 0]) (n + 2)
  | 8 => .run M x (z ++ [1, 0]) (n + 2)
  | 9 => .val (.agg (x.run (z ++ [1, 0])).parts.toArray)
  | 10 => .blk 35 Z39
  | 11 => .run M x (z ++ [1, 0]) (n + 2)
  | _ => .nil
theorem lit0_run (w : World) : (Instr.buildSlice 31 0 #[]).run Try.prog w = .ok (.slice (some ⟨w.heap.size, 0, none⟩) 0 0) (w.alloc (.cells ([] : List Value).toArray 3)) := by kernel_rfl
theorem lit2_run (w : World) : (Instr.buildSlice 31 2 #[(0, .int .i64 1), (1, .int .i64 0)]).run Try.prog w = .ok (.slice (some ⟨w.heap.size, 0, none⟩) 2 2) (w.alloc (.cells [.int .i64 1, .int .i64 0].toArray 3)) := by kernel_rfl
theorem steps64_one (z : List Int) : ∀ v ∈ steps64 z, v.oneCell' = true := by
  intro v hv
  simp only [steps64, List.mem_map] at hv
  obtain ⟨i, _, rfl⟩ := hv
  rfl

set_option maxRecDepth 100000 in
set_option maxHeartbeats 4000000 in
theorem walk_FnRefillNext (hb : BlockC) (l0 : List Int) (hl0 : l0.length = 4) (w0 : ∀ x ∈ l0, (Lit.int .u64 x).wf = true) (A1 : Option Addr) (len1 cap1 : Nat) (z1 : List Int) (W : World) (c1 : Came .i64 W A1 len1 cap1 z1) :
    Calls Try.prog 19 #[.agg (Eq.ints .u64 l0), .slice A1 len1 cap1] W fun e w' => e = .returned (.bool true) ∧ Below W.heap.size W w' := by
  by_cases hg : 200 < len1
  · exact guard_Refill _ A1 len1 cap1 hg W
  obtain ⟨s0, s1, s2, s3, hs⟩ := seed_of hl0 w0
  rw [hs]
  have n2 : (len1 : Int) ≤ 200 := by omega
  have n3 : (len1 : Int) ≤ 2147483647 := by omega
  have hrd : Reads W W.heap.size 1 A1 len1 (steps64 z1) := c1.reads
  have hzl := c1.length
  obtain ⟨tk, htk, hx, _⟩ := row_of zero35
  have h30 := Try.underlying30
  have hSi : (Try.prog.info? 30).map (·.size) = some (u64s [s0, s1, s2, s3]).length := by kernel_rfl
  clear hl0 w0 hs c1
  go_enter Try.func19, Try.ntmps19
  go_wp2_with (refine wpList_box rfl 30 _ rfl _ (u64s [s0, s1, s2, s3]) rfl rfl ?_; intro gs wS hgs hltS hS hbS; (try go_frame))
  have eS : Below W.heap.size W wS.drew := below_drewN hbS 1
  refine wp_region_facts_tail 12 (okF (phiRN W.heap.size (u64s [s0, s1, s2, s3]) A1 len1 cap1 z1 (seeded s0 s1 s2 s3)))
    (Sep W (fun k => match k with | 15 => 1 | 17 => 1 | 19 => 1 | 18 => 2 | 6 => 3 | _ => 0) gs 30 (u64s [s0, s1, s2, s3]) A1 len1 (steps64 z1))
    (fun j => match j with | 3 => [1, 2] | 5 => [3, 4] | 6 => [0, 5] | 7 => [6] | 8 => [7] | 9 => [7] | 11 => [8] | _ => [])
    (fun j => match j with | 3 => [1] | 5 => [1, 3] | _ => []) (by kernel_rfl) (by kernel_rfl) ?_ ?_ ?_
  · exact Sep.start eS hS.drew (hrd.below eS) 38 rfl (by kernel_rfl)
  · intro j hj
    match j, hj with
    | 0, _ => exact stepF_load rfl rfl rfl rfl _ _ rfl (by kernel_rfl) rfl h30 rfl hSi rfl
    | 1, _ => exact stepF_lit rfl rfl (Nat.le_of_ble_eq_true rfl) rfl _ _ _ rfl [] (fun _ => rfl) _ [] lit0_run (.inr ⟨rfl, rfl, rfl⟩)
    | 2, _ => exact stepF_const rfl rfl rfl rfl _ rfl (by kernel_rfl) _ rfl rfl
    | 3, _ => exact stepF_app rfl rfl (Nat.le_of_ble_eq_true rfl) rfl 1 15 _ rfl _ rfl rfl (by decide) 0 len1 [] (steps64 z1) rfl (.arg 2 16 cap1 _ rfl rfl (by decide) rfl) (steps64_one _) rfl (by decide) (by kernel_rfl) (by omega) (by show Fb.own _ _ _ _ = _; simp)
    | 4, _ => exact stepF_lit rfl rfl (Nat.le_of_ble_eq_true rfl) rfl _ _ _ rfl [(0, .int .i64 1), (1, .int .i64 0)] (fun _ => rfl) _ [.int .i64 1, .int .i64 0] lit2_run (.inl rfl)
    | 5, _ => exact stepF_app rfl rfl (Nat.le_of_ble_eq_true rfl) rfl 3 17 _ rfl _ rfl rfl (by decide) len1 2 (steps64 z1) [.int .i64 1, .int .i64 0] rfl (.lit 4 18 2 _ _ _ rfl rfl (by decide) rfl rfl) (steps64_one [1, 0]) rfl (by decide) (by kernel_rfl) (by omega) (by show Fb.own _ _ _ _ = _; simp [steps64])
    | 6, _ => exact stepF_run hb s0 s1 s2 s3 rfl rfl rfl rfl 0 5 14 19 _ rfl _ _ rfl rfl rfl rfl (by decide) (by decide) rfl (len1 + 2) (by omega) (z1 ++ [1, 0]) rfl rfl
    | 7, _ => exact stepF_mov rfl rfl rfl rfl 6 20 (.inl rfl) _ rfl rfl (by decide) rfl
    | 8, _ => exact stepF_ext rfl rfl rfl rfl 7 13 0 rfl _ rfl rfl (by decide) _ _ _ _ rfl (.inl ⟨rfl, rfl⟩)
    | 9, _ => exact stepF_ext rfl rfl rfl rfl 7 13 1 rfl _ rfl rfl (by decide) _ _ _ _ rfl (.inr ⟨rfl, rfl⟩)
    | 10, _ => exact stepF_alloc rfl rfl (Nat.le_of_ble_eq_true rfl) rfl _ rfl tk _ Z39 htk hx rfl rfl
    | 11, _ => exact stepF_mov rfl rfl rfl rfl 8 21 (.inr rfl) _ rfl rfl (by decide) rfl
  · intro a w hd ht hr hC hf
    have f11 : GoodRun w W.heap.size (seeded s0 s1 s2 s3) (z1 ++ [1, 0]) (len1 + 2) (a.tmps.getD 5 undef) := hf 11 _ (by decide) rfl (by decide)
    have f9 : a.tmps.getD 22 undef = .agg ((seeded s0 s1 s2 s3).run (z1 ++ [1, 0])).parts.toArray := hf 9 _ (by decide) rfl (by decide)
    obtain ⟨g6, f10, B6⟩ : ∃ g, a.tmps.getD 6 undef = ptrTo g ∧ B w g 35 Z39 := hf 10 _ (by decide) rfl (by decide)
    have hS' := hC.seed
    have hb' := hC.below
    have l6 : W.heap.size ≤ g6 := (hC.lt 6 (by decide) g6 (by rw [f10]; rfl)).1
    have hrd' := hC.arg
    generalize e14 : a.tmps.getD 14 undef = v14 at *
    generalize e15 : a.tmps.getD 15 undef = v15 at *
    generalize e16 : a.tmps.getD 16 undef = v16 at *
    generalize e17 : a.tmps.getD 17 undef = v17 at *
    generalize e18 : a.tmps.getD 18 undef = v18 at *
    generalize e19 : a.tmps.getD 19 undef = v19 at *
    generalize e20 : a.tmps.getD 20 undef = v20 at *
    generalize e13 : a.tmps.getD 13 undef = v13 at *
    generalize e21 : a.tmps.getD 21 undef = v21 at *
    generalize e5 : a.tmps.getD 5 undef = v5 at *
    obtain rfl := frame_of [(14, v14), (15, v15), (16, v16), (17, v17), (18, v18), (19, v19), (20, v20), (13, v13), (21, v21), (22, _), (6, _), (5, v5)] 38 rfl (by kernel_rfl) hd ht hr (by
      intro p hp
      simp only [List.mem_cons, List.not_mem_nil, or_false] at hp
      rcases hp with rfl | rfl | rfl | rfl | rfl | rfl | rfl | rfl | rfl | rfl | rfl | rfl
      · exact e14
      · exact e15
      · exact e16
      · exact e17
      · exact e18
      · exact e19
      · exact e20
      · exact e13
      · exact e21
      · exact f9
      · exact f10
      · exact e5)
    clear hd ht hr hC hf f9 f10 e14 e15 e16 e17 e18 e19 e20 e13 e21 e5
    simp only [putL, Act.put, List.setIfInBounds_toArray, List.set_cons_zero, List.set_cons_succ, List.drop_succ_cons, List.drop_zero]
    generalize seeded s0 s1 s2 s3 = x at f11
    obtain ⟨Ds, hDl, hDo, hown, _⟩ := f11
    have h35 := Try.underlying35
    refine wpList_store_all rfl 35 _ _ rfl g6 rfl B6 _ rfl (lParts _) (parts_one _) (iParts _) ?_
    intro w6 A6 o6
    have hown6 := own_only hown B6 (by decide) o6
    have b6 : Below W.heap.size W w6 := hb'.trans (o6.below _ l6)
    obtain ⟨Av, cv, rfl, hvf⟩ := own_slice hown6
    obtain ⟨g5, r5, rfl, hg5, hc5, B5⟩ := hvf (by omega)
    have hK := refill_next x z1
    have hlen : (z1 ++ [1, 0]).length = len1 + 2 := by simp [hzl]
    obtain ⟨a1, _, _⟩ := anss_get x (z1 ++ [1, 0]) Ds (len1 + 1) (by omega) (by omega)
    rw [← hzl, hK] at a1
    have q : w6.cell? ⟨g5, (len1 + 1) * 3, none⟩ = some (.bool true) := (B5.cell _).trans (by rw [List.getElem?_append_left (by have := hown6.1; omega), ← hzl]; exact a1)
    clear hvf hown6 hown a1 hK B5 B6 A6 o6 hrd hrd' hS' hS hbS hb' hx htk eS
    have v1 : IntKind.i64.wrap ((len1 : Int) + 2) = (len1 : Int) + 2 := by rw [IntKind.wrap_i64]; omega
    have v2 : IntKind.i64.wrap ((len1 : Int) + 1) = (len1 : Int) + 1 := by rw [IntKind.wrap_i64]; omega
    have v3 : (0 : Int) ≤ (len1 : Int) + 1 := by omega
    have v4 : (len1 : Int) + 1 < ((len1 + 2 : Nat) : Int) := by omega
    have v5 : ((len1 : Int) + 1).toNat = len1 + 1 := by omega
    have v6 : ((len1 + 2 : Nat) : Int) = (len1 : Int) + 2 := by omega
    go_wp2_with fail
    go_ret
    exact ⟨rfl, b6⟩
end Go.Proofs.Ytjhpffenlhfilaa
