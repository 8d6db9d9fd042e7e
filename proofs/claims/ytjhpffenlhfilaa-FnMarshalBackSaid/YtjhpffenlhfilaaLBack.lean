/- The walk of the law on a state that is marshaled and unmarshaled, and goes on. -/
import Derived.Test.YtjhpffenlhfilaaSep
import Derived.Test.YtjhpffenlhfilaaNexts
import Derived.BigQuiet
import Derived.Deep.QuietTactic
namespace Go.Proofs.Ytjhpffenlhfilaa
open Go.RowKit Ch Mem

theorem zeros_take (l : List Int) (k : Nat) (hk : k < l.length) : zeros (l.take (k + 1)) = zeros (l.take k) + (if l.getD k 0 = 0 then 1 else 0) := by
  rw [List.take_succ_eq_append_getElem hk, zeros_append]
  have e : l.getD k 0 = l[k] := by simp [List.getD, hk]
  rw [e]
  congr 1
  unfold zeros
  rw [List.countP_singleton]
  by_cases h : l[k] = 0
  · rw [if_pos h, decide_eq_true h]; rfl
  · rw [if_neg h, decide_eq_false h]; rfl
theorem run_back (s0 s1 s2 s3 : V) (n : Nat) : (seeded s0 s1 s2 s3).run (nx 0 false n ++ [4]) = ((seeded s0 s1 s2 s3).it n).full := by
  rw [G.run_append, run_nx]
  rfl
/-- What the steps tell: the one that marshals and unmarshals; those behind it. -/
theorem back_at (s0 s1 s2 s3 : V) (n m : Nat) : ((seeded s0 s1 s2 s3).run ((nx 0 false n ++ [4] ++ nx n true m).take (nx 0 false n).length)).stepK ((nx 0 false n ++ [4] ++ nx n true m).getD (nx 0 false n).length 0) = true := by
  have e1 : (nx 0 false n ++ [4] ++ nx n true m).getD (nx 0 false n).length 0 = 4 := by
    rw [List.append_assoc, getD_app _ _ _ (Nat.le_refl _), Nat.sub_self]
    rfl
  rw [e1]
  rfl
theorem back_get (s0 s1 s2 s3 : V) (n m k p : Nat) (hp : p = (nx 0 false n).length + 1 + k) (hk : k < (nx n true m).length) :
    (nx n true m).getD k 0 = 1 ∨ ((nx n true m).getD k 0 = 0 ∧ zeros ((nx n true m).take k) < m ∧
      ((seeded s0 s1 s2 s3).run ((nx 0 false n ++ [4] ++ nx n true m).take p)).stepK ((nx 0 false n ++ [4] ++ nx n true m).getD p 0) = true ∧
      ((seeded s0 s1 s2 s3).run ((nx 0 false n ++ [4] ++ nx n true m).take p)).stepV ((nx 0 false n ++ [4] ++ nx n true m).getD p 0) = (seeded s0 s1 s2 s3).nth (n + zeros ((nx n true m).take k))) := by
  have hl : (nx 0 false n ++ [4]).length = (nx 0 false n).length + 1 := by simp
  have hle : (nx 0 false n ++ [4]).length ≤ p := by omega
  have hpk : p - (nx 0 false n ++ [4]).length = k := by omega
  rw [take_app _ _ _ hle, getD_app _ _ _ hle, G.run_append, run_back, hpk]
  rcases (run_behind s0 s1 s2 s3 n m).2 k hk with h | ⟨h1, h2, h3, h4⟩
  · exact .inl h
  · rw [h1]
    exact .inr ⟨rfl, h2, h3, h4⟩

section
variable {ops : Array Oper} {md : Region.Mode} {Q : Exit → Act → World → Prop} {F : Nat → Fb} {W : World} {cls : Nat → Nat} {gs n : Nat} {T : TypeId} {S xs : List Value} {A : Option Addr} {pre del : Nat → List Nat} {base : Act} {o : Oper} {j d : Nat}
/-- An append of a row that stood ahead of the region. -/
theorem stepF_app_old (hj : ops[j]? = some o) (hd : o.dst = some d) (hs : d < base.tmps.size) (hgd : o.guard = none) (i e i2 e2 : Nat) (ho : o.op = .call { callee := .builtin .append, args := #[.tmp e, .tmp e2], argTypes := #[31, 31] })
    (oi : Oper) (hi : ops[i]? = some oi) (hie : oi.dst = some e) (hpre : i ∈ pre j) (k m : Nat) (ys zs : List Value) (hFi : F i = .own W.heap.size 3 k ys) (oi2 : Oper) (hi2 : ops[i2]? = some oi2) (hie2 : oi2.dst = some e2) (hpre2 : i2 ∈ pre j) (A2 : Option Addr) (c2 : Nat) (hFi2 : F i2 = .val (.slice A2 m c2))
    (hrd : Reads W W.heap.size 1 A2 m zs) (h1 : ∀ u ∈ zs, u.oneCell' = true)
    (hed : cls e = cls d) (he0 : 0 < cls e) (hap : apartB md ops F cls del j e = true) (hkm : k + m ≤ 100000) (hF : F j = .own W.heap.size 3 (k + m) (ys ++ zs)) : StepF ops md Q F W cls gs T S A n xs pre del base j := by
  intro o' ho' a w K hde ht hre hC hp hK
  obtain rfl : o = o' := Option.some.inj (hj.symm.trans ho')
  have hf := hp i hpre oi hi
  replace hf := of_okF hFi hf
  rw [slot_tmp hie] at hf
  have hown : w.ownsRow W.heap.size 3 1 (a.tmps.getD e undef) k ys := hf
  have hrow := blkOf_own hown
  obtain ⟨i0, hi0, hz0, hz1, hz2⟩ := info_parts info_int
  have hf2 := hp i2 hpre2 oi2 hi2
  replace hf2 := of_okF hFi2 hf2
  rw [slot_tmp hie2] at hf2
  have hx : a.eval (.tmp e2) = .slice A2 m c2 := (eval_tmp a e2).trans hf2
  refine step_append_any w hgd _ _ _ ho W.heap.size 3 i0 (.int .i64 0) 1 8 Try.underlying31 hi0 hz0 hz1 hz2 rfl (by omega) _ k ys (eval_tmp a e) hown W.heap.size A2 m c2 zs hx (hrd.below hC.below) h1 (by unfold maxLen; omega) (by omega) hC.below.size ?_
  intro v' w' hown' hg hv'
  rw [← hrow] at hg hv'
  have hb' := blkOf_own hown'
  refine hK _ _ (fun h => by rw [hd] at h; cases h) (by
    rw [hd]
    exact hC.app v' _ rfl hg (by rw [hb']; exact hv') (fun g hgb => own_lt hown' g (hb'.symm.trans hgb)) he0 hed (by rw [ht]; exact hs)) (okF_of hF hown') (apartB_keep hap he0 hC rfl hg)
end

theorem guard_Back (S : Array Value) (a1 a2 : Int) (hg : a1 < 0 ∨ a2 < 0 ∨ 300 < a1 ∨ 200 < a2) (W : World) :
    Calls Try.prog 7 #[.agg S, .int .i64 a1, .int .i64 a2] W fun e w' => e = .returned (.bool true) ∧ Below W.heap.size W w' := by
  by_cases h1 : a1 < 0
  · clear hg
    go_enter Try.func7, Try.ntmps7
    go_wp2
    go_ret
    exact ⟨rfl, (Below.refl _ _).alloc (Nat.le_refl _) _⟩
  · by_cases h2 : a2 < 0
    · clear hg
      go_enter Try.func7, Try.ntmps7
      go_wp2
      go_ret
      exact ⟨rfl, (Below.refl _ _).alloc (Nat.le_refl _) _⟩
    · by_cases h3 : 300 < a1
      · clear hg
        go_enter Try.func7, Try.ntmps7
        go_wp2
        go_ret
        exact ⟨rfl, (Below.refl _ _).alloc (Nat.le_refl _) _⟩
      · have h4 : 200 < a2 := by omega
        clear hg
        go_enter Try.func7, Try.ntmps7
        go_wp2
        go_ret
        exact ⟨rfl, (Below.refl _ _).alloc (Nat.le_refl _) _⟩

def phiMB (M : Nat) (S : List Value) (A1 A2 : Option Addr) (n1 c1 n2 c2 : Nat) (z1 z2 : List Int) (x : G) : Nat → Fb
  | 0 => .val (.agg S.toArray)
  | 1 => .own M 3 0 []
  | 2 => .val (.slice A1 n1 c1)
  | 3 => .own M 3 n1 (steps64 z1)
  | 4 => .lit 3 1 [.int .i64 4]
  | 5 => .own M 3 (n1 + 1) (steps64 (z1 ++ [4]))
  | 6 => .val (.slice A2 n2 c2)
  | 7 => .own M 3 (n1 + 1 + n2) (steps64 (z1 ++ [4] ++ z2))
  | 8 => .tup M x (z1 ++ [4] ++ z2) (n1 + 1 + n2)
  | 9 => .tup M x (z1 ++ [4] ++ z2) (n1 + 1 + n2)
  | 10 => .run M x (z1 ++ [4] ++ z2) (n1 + 1 + n2)
  | 11 => .val (.agg (x.run (z1 ++ [4] ++ z2)).parts.toArray)
  | 12 => .blk 35 Z39
  | 13 => .run M x (z1 ++ [4] ++ z2) (n1 + 1 + n2)
  | _ => .nil
theorem lit4_run (w : World) : (Instr.buildSlice 31 1 #[(0, .int .i64 4)]).run Try.prog w = .ok (.slice (some ⟨w.heap.size, 0, none⟩) 1 1) (w.alloc (.cells [.int .i64 4].toArray 3)) := by kernel_rfl

set_option maxRecDepth 100000 in
set_option maxHeartbeats 4000000 in
theorem walk_FnMarshalBack (hb : BlockC) (l0 : List Int) (hl0 : l0.length = 4) (w0 : ∀ x ∈ l0, (Lit.int .u64 x).wf = true) (a1 : Int) (w1 : (Lit.int .i64 a1).wf = true) (a2 : Int) (w2 : (Lit.int .i64 a2).wf = true) (W : World) :
    Calls Try.prog 7 #[.agg (Eq.ints .u64 l0), .int .i64 a1, .int .i64 a2] W fun e w' => e = .returned (.bool true) ∧ Below W.heap.size W w' := by
  by_cases hg : a1 < 0 ∨ a2 < 0 ∨ 300 < a1 ∨ 200 < a2
  · exact guard_Back _ a1 a2 hg W
  obtain ⟨s0, s1, s2, s3, hs⟩ := seed_of hl0 w0
  rw [hs]
  obtain ⟨n, rfl⟩ : ∃ n : Nat, a1 = (n : Int) := ⟨a1.toNat, by omega⟩
  obtain ⟨m, rfl⟩ : ∃ m : Nat, a2 = (m : Int) := ⟨a2.toNat, by omega⟩
  have n1 : (0 : Int) ≤ (n : Int) := by omega
  have n2 : (n : Int) ≤ 300 := by omega
  have m1 : (0 : Int) ≤ (m : Int) := by omega
  have m2 : (m : Int) ≤ 200 := by omega
  clear hg w1 w2 hl0 w0 hs
  obtain ⟨tk, htk, hx, _⟩ := row_of zero35
  have h30 := Try.underlying30
  have h35 := Try.underlying35
  have hSi : (Try.prog.info? 30).map (·.size) = some (u64s [s0, s1, s2, s3]).length := by kernel_rfl
  obtain ⟨q, hq⟩ : ∃ q, q = n + m := ⟨_, rfl⟩
  have v1 : IntKind.i64.wrap ((n : Int) + (m : Int)) = (q : Int) := by rw [IntKind.wrap_i64]; omega
  have hq5 : q ≤ 500 := by omega
  have hz1 := nx_length 0 false n
  have hz2 := nx_length n true m
  have N1 := Lib.hid (fun w => nexts_any 0 n n false (by omega) (by omega) (by omega) w)
  have N2 := Lib.hid (fun w => nexts_any n m q true (by omega) (by omega) (by omega) w)
  have CD := Lib.hid (fun w => draw_any hb s0 s1 s2 s3 q (by omega) w)
  have AT := Lib.hid (back_at s0 s1 s2 s3 n m)
  have GET := Lib.hid (fun k p h1 h2 => back_get s0 s1 s2 s3 n m k p h1 h2)
  have hlg := fun k (hk : k < q) => (seeded s0 s1 s2 s3).list_get q k hk
  have hll := (seeded s0 s1 s2 s3).list_length q
  have HLG := Lib.hid hlg
  have HLL := Lib.hid hll
  have HQ := Lib.hid hq
  clear hlg hll hq
  generalize nx 0 false n = z1 at hz1 N1 AT GET
  generalize nx n true m = z2 at hz2 N2 AT GET
  generalize (seeded s0 s1 s2 s3).list q = LA at CD HLG HLL
  obtain ⟨len1, hlen1⟩ : ∃ l, l = z1.length := ⟨_, rfl⟩
  obtain ⟨len2, hlen2⟩ : ∃ l, l = z2.length := ⟨_, rfl⟩
  rw [← hlen1] at hz1 N1 AT GET
  rw [← hlen2] at hz2 N2 GET
  have L1 := Lib.hid hlen1
  have L2 := Lib.hid hlen2
  have b1 : len1 ≤ 600 := by omega
  have b2 : len2 ≤ 400 := by omega
  clear hlen1 hlen2 hz1 hz2
  go_enter Try.func7, Try.ntmps7
  go_wp2_with (first
    | (refine wpList_box rfl 30 _ rfl _ (u64s [s0, s1, s2, s3]) rfl rfl ?_; intro gs wS hgs hltS hS hbS; (try go_frame))
    | (have hh := hown1; clear hh; go_at_call 27; refine (N2.out _).mono ?_; rintro e w2 ⟨y2, rfl, hown2, hb2⟩; have hS2 := hS1.call hb2; have e2 := below_call e1 e1.size hb2; have hown1' := own_call hown1 hb2)
    | (go_at_call 27; refine (N1.out _).mono ?_; rintro e w1 ⟨y1, rfl, hown1, hb1⟩; have hS1 := hS.call hb1; have e1 := below_call hbS hbS.size hb1))
  obtain ⟨Av1, cv1, rfl, -⟩ := own_slice hown1'
  obtain ⟨Av2, cv2, rfl, -⟩ := own_slice hown2
  have hr1 : Reads w2 w2.heap.size 1 Av1 len1 (steps64 z1) := Reads.of_own hown1'
  have hr2 : Reads w2 w2.heap.size 1 Av2 len2 (steps64 z2) := Reads.of_own hown2
  clear hown1 hown1' hown2 hS hS1 hbS hb1 hb2 e1
  refine wp_region_facts_tail 14 (okF (phiMB w2.heap.size (u64s [s0, s1, s2, s3]) Av1 Av2 len1 cv1 len2 cv2 z1 z2 (seeded s0 s1 s2 s3)))
    (Sep w2 (fun k => match k with | 37 => 1 | 39 => 1 | 41 => 1 | 43 => 1 | 40 => 2 | 10 => 3 | _ => 0) gs 30 (u64s [s0, s1, s2, s3]) none 0 [])
    (fun j => match j with | 3 => [1, 2] | 5 => [3, 4] | 7 => [5, 6] | 8 => [0, 7] | 9 => [8] | 10 => [9] | 11 => [9] | 13 => [10] | _ => [])
    (fun j => match j with | 3 => [1] | 5 => [1, 3] | 7 => [1, 3, 5] | _ => []) (by kernel_rfl) (by kernel_rfl) ?_ ?_ ?_
  · exact Sep.start (below_drewN (Below.refl _ _) 1) hS2.drew Reads.none_ 114 rfl (by kernel_rfl)
  · intro j hj
    match j, hj with
    | 0, _ => exact stepF_load rfl rfl rfl rfl _ _ rfl (by kernel_rfl) rfl h30 rfl hSi rfl
    | 1, _ => exact stepF_lit rfl rfl (Nat.le_of_ble_eq_true rfl) rfl _ _ _ rfl [] (fun _ => rfl) _ [] lit0_run (.inr ⟨rfl, rfl, rfl⟩)
    | 2, _ => exact stepF_const rfl rfl rfl rfl _ rfl (by kernel_rfl) _ rfl rfl
    | 3, _ => exact stepF_app_old rfl rfl (Nat.le_of_ble_eq_true rfl) rfl 1 37 2 38 rfl _ rfl rfl (by decide) 0 len1 [] (steps64 z1) rfl _ rfl rfl (by decide) Av1 cv1 rfl hr1 (steps64_one _) rfl (by decide) (by kernel_rfl) (by omega) (by show Fb.own _ _ _ _ = _; simp)
    | 4, _ => exact stepF_lit rfl rfl (Nat.le_of_ble_eq_true rfl) rfl _ _ _ rfl [(0, .int .i64 4)] (fun _ => rfl) _ [.int .i64 4] lit4_run (.inl rfl)
    | 5, _ => exact stepF_app rfl rfl (Nat.le_of_ble_eq_true rfl) rfl 3 39 _ rfl _ rfl rfl (by decide) len1 1 (steps64 z1) [.int .i64 4] rfl (.lit 4 40 1 _ _ _ rfl rfl (by decide) rfl rfl) (steps64_one [4]) rfl (by decide) (by kernel_rfl) (by omega) (by show Fb.own _ _ _ _ = _; simp [steps64])
    | 6, _ => exact stepF_const rfl rfl rfl rfl _ rfl (by kernel_rfl) _ rfl rfl
    | 7, _ => exact stepF_app_old rfl rfl (Nat.le_of_ble_eq_true rfl) rfl 5 41 6 42 rfl _ rfl rfl (by decide) (len1 + 1) len2 (steps64 (z1 ++ [4])) (steps64 z2) rfl _ rfl rfl (by decide) Av2 cv2 rfl hr2 (steps64_one _) rfl (by decide) (by kernel_rfl) (by omega) (by show Fb.own _ _ _ _ = _; rw [steps64_app (z1 ++ [4]) z2])
    | 8, _ => exact stepF_run hb s0 s1 s2 s3 rfl rfl rfl rfl 0 7 36 43 _ rfl _ _ rfl rfl rfl rfl (by decide) (by decide) rfl (len1 + 1 + len2) (by omega) (z1 ++ [4] ++ z2) rfl rfl
    | 9, _ => exact stepF_mov rfl rfl rfl rfl 8 44 (.inl rfl) _ rfl rfl (by decide) rfl
    | 10, _ => exact stepF_ext rfl rfl rfl rfl 9 35 0 rfl _ rfl rfl (by decide) _ _ _ _ rfl (.inl ⟨rfl, rfl⟩)
    | 11, _ => exact stepF_ext rfl rfl rfl rfl 9 35 1 rfl _ rfl rfl (by decide) _ _ _ _ rfl (.inr ⟨rfl, rfl⟩)
    | 12, _ => exact stepF_alloc rfl rfl (Nat.le_of_ble_eq_true rfl) rfl _ rfl tk _ Z39 htk hx rfl rfl
    | 13, _ => exact stepF_mov rfl rfl rfl rfl 10 45 (.inr rfl) _ rfl rfl (by decide) rfl
  · intro a w hd ht hr hC hf
    have f13 : GoodRun w w2.heap.size (seeded s0 s1 s2 s3) (z1 ++ [4] ++ z2) (len1 + 1 + len2) (a.tmps.getD 9 undef) := hf 13 _ (by decide) rfl (by decide)
    have f11 : a.tmps.getD 46 undef = .agg ((seeded s0 s1 s2 s3).run (z1 ++ [4] ++ z2)).parts.toArray := hf 11 _ (by decide) rfl (by decide)
    obtain ⟨g10, f12, B10⟩ : ∃ g, a.tmps.getD 10 undef = ptrTo g ∧ B w g 35 Z39 := hf 12 _ (by decide) rfl (by decide)
    have hS' := hC.seed
    have hb' := hC.below
    obtain ⟨l10, _, l10s⟩ := hC.lt 10 (by decide) g10 (by rw [f12]; rfl)
    generalize e36 : a.tmps.getD 36 undef = v36 at *
    generalize e37 : a.tmps.getD 37 undef = v37 at *
    generalize e38 : a.tmps.getD 38 undef = v38 at *
    generalize e39 : a.tmps.getD 39 undef = v39 at *
    generalize e40 : a.tmps.getD 40 undef = v40 at *
    generalize e41 : a.tmps.getD 41 undef = v41 at *
    generalize e42 : a.tmps.getD 42 undef = v42 at *
    generalize e43 : a.tmps.getD 43 undef = v43 at *
    generalize e44 : a.tmps.getD 44 undef = v44 at *
    generalize e35 : a.tmps.getD 35 undef = v35 at *
    generalize e45 : a.tmps.getD 45 undef = v45 at *
    generalize e9 : a.tmps.getD 9 undef = v9 at *
    obtain rfl := frame_of [(36, v36), (37, v37), (38, v38), (39, v39), (40, v40), (41, v41), (42, v42), (43, v43), (44, v44), (35, v35), (45, v45), (46, _), (10, _), (9, v9)] 114 rfl (by kernel_rfl) hd ht hr (by
      intro p hp
      simp only [List.mem_cons, List.not_mem_nil, or_false] at hp
      rcases hp with rfl | rfl | rfl | rfl | rfl | rfl | rfl | rfl | rfl | rfl | rfl | rfl | rfl | rfl
      · exact e36
      · exact e37
      · exact e38
      · exact e39
      · exact e40
      · exact e41
      · exact e42
      · exact e43
      · exact e44
      · exact e35
      · exact e45
      · exact f11
      · exact f12
      · exact e9)
    clear hd ht hr hC hf f11 f12 e36 e37 e38 e39 e40 e41 e42 e43 e44 e35 e45 e9
    simp only [putL, Act.put, List.setIfInBounds_toArray, List.set_cons_zero, List.set_cons_succ, List.drop_succ_cons, List.drop_zero]
    generalize seeded s0 s1 s2 s3 = x at f13 AT GET HLG ⊢
    obtain ⟨Ds, hDl, hDo, hown, _⟩ := f13
    refine wpList_store_all rfl 35 _ _ rfl g10 rfl B10 _ rfl (lParts _) (parts_one _) (iParts _) ?_
    intro w6 A6 o6
    have hown6 := own_only hown B10 (by decide) o6
    have b6 : Below w2.heap.size w2 w6 := hb'.trans (o6.below _ l10)
    have e6 : Below W.heap.size W w6 := below_call e2 e2.size b6
    have hr6 := hr2.below b6
    have s26 := b6.size
    have S6 := hS'.only o6 (Ne.symm l10s)
    obtain ⟨Av, cv, rfl, hvf⟩ := own_slice hown6
    obtain ⟨g9, r9, rfl, hg9, hc9, B9⟩ := hvf (by omega)
    have hL : (z1 ++ [4] ++ z2).length = len1 + 1 + len2 := by rw [List.length_append, List.length_append, ← L1.out, ← L2.out]; rfl
    have hal := hown6.1
    generalize z1 ++ [4] ++ z2 = L at hDl hL AT GET B9 hal
    have ANS := Lib.hid (fun k (hk : k < len1 + 1 + len2) => anss_get x L Ds k (by omega) (by omega))
    have HAL := Lib.hid hal
    clear hvf hown6 hown hr1 hr2 hal hDl hL hDo A6 B10 o6 hb' hS' hS2 e2 b6 hx htk N1 N2
    obtain ⟨at1, hat1⟩ : ∃ k, k = len1 + 1 := ⟨_, rfl⟩
    obtain ⟨tot, htot⟩ : ∃ k, k = len1 + 1 + len2 := ⟨_, rfl⟩
    rw [← htot] at ANS HAL hc9
    rw [← htot]
    have u1 : IntKind.i64.wrap ((len1 : Int) + 1) = (at1 : Int) := by rw [IntKind.wrap_i64]; omega
    have u2 : IntKind.i64.wrap ((at1 : Int) + (len2 : Int)) = (tot : Int) := by rw [IntKind.wrap_i64]; omega
    have u3 : IntKind.i64.wrap ((at1 : Int) - 1) = (len1 : Int) := by rw [IntKind.wrap_i64]; omega
    have u4 : (len1 : Int) < (tot : Int) := by omega
    have HAT1 := Lib.hid hat1
    have HTOT := Lib.hid htot
    have tot2 : tot ≤ 2000 := by omega
    have at2 : at1 ≤ 2000 := by omega
    have hlt1 : len1 < tot := by omega
    obtain ⟨k1, _, _⟩ := ANS.out len1 hlt1
    rw [AT.out] at k1
    have qa : w6.cell? ⟨g9, len1 * 3, none⟩ = some (.bool true) := (B9.cell _).trans (by rw [List.getElem?_append_left (by have := HAL.out; omega)]; exact k1)
    clear hat1 htot k1 hlt1
    go_wp2_with (first
      | (refine wpList_load_all rfl 30 _ rfl gs rfl S6 h30 rfl hSi ?_)
      | (go_at_call 28; refine (CD.out _).mono ?_; rintro e w7 ⟨Ad, cd, rfl, hr7, hb7⟩; have e7 := below_call e6 e6.size hb7; have B97 := B9.call hb7; have hr27 := hr6.below (hb7.mono s26); have qa7 : w7.cell? ⟨g9, len1 * 3, none⟩ = some (.bool true) := (hb7.cell (p := ⟨g9, len1 * 3, none⟩) B9.lt).trans qa))
    clear hr6 qa S6 B9 hb7 e6 CD hSi
    have T0 : zeros (z2.take 0) = 0 := rfl
    generalize w7.heap.size = b7 at hr7
    go_loopw [1, 13] (fun vn vi wr => ∃ k c : Nat, k ≤ len2 ∧ c = n + zeros (z2.take k) ∧ vi = .int .i64 (k : Int) ∧ vn = .int .i64 (c : Int) ∧ B wr g9 40 (anss x L Ds ++ r9) ∧ Reads wr w2.heap.size 1 Av2 len2 (steps64 z2) ∧ Reads wr b7 1 Ad q (u64s LA) ∧ Below W.heap.size W wr) (fun _ vi _ => len2 - (intOf vi).toNat)
    case atStart => exact ⟨0, n, Nat.zero_le _, by rw [T0]; rfl, rfl, rfl, B97, hr27, hr7, e7⟩
    case round =>
      clear B97 hr27 hr7 e7 qa7
      obtain ⟨k, c, hk, hc, rfl, rfl, hB, hrB, hrD, hbel⟩ := hrel
      by_cases hlt : k < len2
      · have hlt' : (k : Int) < (len2 : Int) := by omega
        obtain ⟨p, hp⟩ : ∃ p, p = len1 + 1 + k := ⟨_, rfl⟩
        have hz := zeros_take z2 k (by rw [← L2.out]; exact hlt)
        obtain ⟨ad2, us, hA2, _, hus, hcs⟩ := hrB.at_ hlt
        rw [steps64_get z2 k (by rw [← L2.out]; exact hlt)] at hus
        obtain rfl := Option.some.inj hus
        subst hA2
        rcases GET.out k p hp hlt with hs1 | ⟨hs0, hzm, hsk, hsv⟩
        · rw [hs1] at hz hcs
          have hz1 : n + zeros (z2.take (k + 1)) = c := by rw [hz, if_neg (by decide), hc]; rfl
          have HZ := Lib.hid hz1
          clear hz hs1 hus hp hc hz1
          go_wp2_with fail
          go_roundw
          case rel => exact ⟨k + 1, c, by omega, HZ.out.symm, by go_num, rfl, hB, hrB, hrD, hbel⟩
          case measure => simp [intOf]; omega
        · rw [hs0] at hz hcs
          have hz1 : c + 1 = n + zeros (z2.take (k + 1)) := by rw [hz, if_pos rfl, hc]; omega
          have hcq : c < q := by rw [hc, HQ.out]; omega
          rw [← hc] at hsv
          have hpt : p < tot := by rw [HTOT.out]; omega
          obtain ⟨a1, a2, _⟩ := ANS.out p hpt
          rw [hsk] at a1
          rw [hsv] at a2
          have q1 : wr.cell? ⟨g9, p * 3, none⟩ = some (.bool true) := (hB.cell _).trans (by rw [List.getElem?_append_left (by have := HAL.out; omega)]; exact a1)
          have q2 : wr.cell? ⟨g9, p * 3 + 1, none⟩ = some (.int .u64 (n64 (x.nth c))) := (hB.cell _).trans (by rw [List.getElem?_append_left (by have := HAL.out; omega)]; exact a2)
          obtain ⟨ad, ud, hAd, _, hud, q3⟩ := hrD.at_ hcq
          rw [u64s_get _ _ (by rw [HLL.out]; exact hcq), HLG.out c hcq] at hud
          obtain rfl := Option.some.inj hud
          subst hAd
          generalize x.nth c = v at q2 q3
          have p1 : IntKind.i64.wrap ((at1 : Int) + (k : Int)) = (p : Int) := by rw [IntKind.wrap_i64]; have := HAT1.out; omega
          have p2 : (p : Int) < (tot : Int) := by omega
          have p3 : (c : Int) < (q : Int) := by omega
          have p4 : c ≤ 500 := by omega
          have HZ := Lib.hid hz1
          clear hz hs0 hud hp hc hz1 hsk hsv a1 a2 hpt hcq hzm
          go_wp2_with fail
          go_quiet (fail)
          have hB' := hB.drewN nq
          have hrB' := hrB.drewN nq
          have hrD' := hrD.drewN nq
          have hbel' := below_drewN hbel nq
          go_wp2
          go_roundw
          case rel => exact ⟨k + 1, c + 1, by omega, HZ.out, by go_num, by go_num, hB', hrB', hrD', hbel'⟩
          case measure => simp [intOf]; omega
      · have hge : (len2 : Int) ≤ (k : Int) := by omega
        go_wp2_with fail
        go_ret
        exact ⟨rfl, hbel⟩
end Go.Proofs.Ytjhpffenlhfilaa
