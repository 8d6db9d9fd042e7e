/- The walk of the law on steps. -/
import Derived.Test.YtjhpffenlhfilaaWRun
import Derived.Test.YtjhpffenlhfilaaWStep3
import Derived.Test.YtjhpffenlhfilaaLInit64
import Derived.Test.YtjhpffenlhfilaaMix
namespace Go.Proofs.Ytjhpffenlhfilaa
open Go.RowKit Ch Mem

theorem anss_get (x : G) (L : List Int) (Ds : List Value) (k : Nat) (hk : k < L.length) (h : Ds.length = L.length) :
    (anss x L Ds)[k * 3]? = some (.bool ((x.run (L.take k)).stepK (L.getD k 0))) ∧ (anss x L Ds)[k * 3 + 1]? = some (.int .u64 (n64 ((x.run (L.take k)).stepV (L.getD k 0)))) ∧ (anss x L Ds)[k * 3 + 2]? = Ds[k]? := by
  induction L generalizing x Ds k with
  | nil => simp at hk
  | cons s r ih =>
    match Ds, h with
    | d :: ds, h =>
      match k with
      | 0 => exact ⟨rfl, rfl, rfl⟩
      | k + 1 =>
        obtain ⟨h1, h2, h3⟩ := ih (x.stepG s) ds k (by simpa using hk) (by simpa using h)
        have e : ∀ j, (anss x (s :: r) (d :: ds))[3 + j]? = (anss (x.stepG s) r ds)[j]? := fun j => by
          show (ansOf x s d ++ anss (x.stepG s) r ds)[3 + j]? = _
          rw [List.getElem?_append_right (by show 3 ≤ 3 + j; omega), show (ansOf x s d).length = 3 from rfl, Nat.add_sub_cancel_left]
        refine ⟨?_, ?_, ?_⟩
        · rw [show (k + 1) * 3 = 3 + k * 3 by omega, e]; exact h1
        · rw [show (k + 1) * 3 + 1 = 3 + (k * 3 + 1) by omega, e]; exact h2
        · rw [show (k + 1) * 3 + 2 = 3 + (k * 3 + 2) by omega, e]; exact h3
/-- A row of the call's own. -/
theorem own_slice {w : World} {base n size : Nat} {t : TypeId} {v : Value} {xs : List Value} (h : w.ownsRow base t size v n xs) :
    ∃ A c, v = .slice A n c ∧ (0 < n → ∃ g r, A = some ⟨g, 0, none⟩ ∧ base ≤ g ∧ n ≤ c ∧ B w g t (xs ++ r)) := by
  rcases h.2 with ⟨rfl, rfl⟩ | ⟨g, cap, cur, rfl, hg, hh, hnc, hcm, hsz, ht⟩
  · exact ⟨none, 0, rfl, fun h0 => absurd h0 (by omega)⟩
  · refine ⟨_, cap, rfl, fun _ => ⟨g, cur.toList.drop (n * size), rfl, hg, hnc, ?_⟩⟩
    show w.heap[g]? = _
    rw [← ht, List.take_append_drop, Array.toArray_toList]
    exact hh
theorem step_load_all {P : Program} {ops : Array Oper} {o : Oper} {a : Act} {w : World} {K : Act → World → Prop} {Q : Exit → Act → World → Prop} {E : Prop} (hgd : o.guard = none) (ty : TypeId) (x : Operand) (ho : o.op = .load ty x) (g : Nat) (hx : a.eval x = .pointer (some ⟨g, 0, none⟩)) {T : TypeId} {l : List Value} (hB : B w g T l)
    {d : TypeDesc} (hu : P.underlying ty = some d) (hd : d.isRow = true) (hi : (P.info? ty).map (·.size) = some l.length) (h : K (a.put o.dst (.agg l.toArray)) w) :
    if Region.wanted o (yielded ops a.tmps) = true then Oper.wp P o a w K Q else E := by
  rw [if_pos (by simp [Region.wanted, hgd])]
  have e := run_loadAt_mid (P := P) w g 0 _ _ _ (hB.rangeAt 0 l (by rw [List.drop_zero]; exact List.take_length)) hu hd hi
  unfold Oper.wp execOp
  simp only [ho, hx, Sem.run_bind, e, Result.andThen_ok, Sem.run_pure]
  exact h

theorem guard_Run (S : Array Value) (A : Option Addr) (len cap : Nat) (h : 200 < len) (W : World) :
    Calls Try.prog 18 #[.agg S, .slice A len cap] W fun e w' => e = .returned (.bool true) ∧ Below W.heap.size W w' := by
  by_cases h1 : 2147483647 < len
  · have h2 : (2147483647 : Int) < (len : Int) := by omega
    go_enter Try.func18, Try.ntmps18
    go_wp2
    go_ret
    exact ⟨rfl, (Below.refl _ _).alloc (Nat.le_refl _) _⟩
  · have h2 : (len : Int) ≤ 2147483647 := by omega
    have h3 : (200 : Int) < (len : Int) := by omega
    go_enter Try.func18, Try.ntmps18
    go_wp2
    go_ret
    exact ⟨rfl, (Below.refl _ _).alloc (Nat.le_refl _) _⟩

set_option maxRecDepth 100000 in
set_option maxHeartbeats 4000000 in
theorem walk_FnExactRun (hb : BlockC) (l0 : List Int) (hl0 : l0.length = 4) (w0 : ∀ x ∈ l0, (Lit.int .u64 x).wf = true) (A1 : Option Addr) (len1 cap1 : Nat) (z1 : List Int) (W : World) (c1 : Came .i64 W A1 len1 cap1 z1) :
    Calls Try.prog 18 #[.agg (Eq.ints .u64 l0), .slice A1 len1 cap1] W fun e w' => e = .returned (.bool true) ∧ Below W.heap.size W w' := by
  by_cases hg : 200 < len1
  · exact guard_Run _ A1 len1 cap1 hg W
  obtain ⟨s0, s1, s2, s3, hs⟩ := seed_of hl0 w0
  rw [hs]
  have n2 : (len1 : Int) ≤ 200 := by omega
  have n3 : (len1 : Int) ≤ 2147483647 := by omega
  have hrd : Reads W W.heap.size 1 A1 len1 (steps64 z1) := c1.reads
  have hzl := c1.length
  obtain ⟨tk, htk, hx, _⟩ := row_of zero35
  have h30 := Try.underlying30
  have h35 := Try.underlying35
  have CR := Lib.hid (fun b w h1 h2 => run_any hb s0 s1 s2 s3 A1 len1 cap1 z1 b w h1 h2 (by omega))
  have CS := Lib.hid (fun w => specStart_any s0 s1 s2 s3 w)
  have hok0 := seeded_ok s0 s1 s2 s3
  clear hl0 w0 hs c1 hg
  generalize seeded s0 s1 s2 s3 = x at CR CS hok0
  have eqs := fun w => eql35 (x.run z1) w
  have hag := fun Ds k hk h => anss_get x z1 Ds k hk h
  have HAG := Lib.hid hag
  have HZL := Lib.hid hzl
  have EQS := Lib.hid eqs
  clear hag hzl eqs
  have hSi : (Try.prog.info? 30).map (·.size) = some (u64s [s0, s1, s2, s3]).length := by kernel_rfl
  have IE := Lib.hid (iParts (x.run z1))
  have LE := Lib.hid (lParts (x.run z1))
  have oE := parts_one (x.run z1)
  have IX := Lib.hid (iParts x)
  have LX := Lib.hid (lParts x)
  have oX := parts_one x
  go_enter Try.func18, Try.ntmps18
  go_wp2_with (first
    | (refine wpList_box rfl 30 _ rfl _ (u64s [s0, s1, s2, s3]) rfl rfl ?_; intro gs w1 hgs hlt1 hS1 hb1; (try go_frame); have hrd1 := hrd.below hb1)
    | (refine wpList_load_all rfl 30 _ rfl gs rfl hS1 h30 rfl hSi ?_)
    | (go_at_call 24; refine (CR.out W.heap.size _ hrd1 hb1.size).mono ?_; rintro e w2 ⟨v, Ds, rfl, hDl, hDo, hown2, hld, hb2⟩; have hS2 := hS1.call hb2; have hrd2 := hrd1.below (hb2.mono hb1.size); have e2 := below_call hb1 hb1.size hb2; obtain ⟨Av, cv, rfl, hvf⟩ := own_slice hown2)
    | (refine wpList_alloc rfl 35 rfl tk _ Z39 htk hx rfl ?_; intro g6 w3 hg6 hlt3 hE3 hb3; (try go_frame); have hS3 := hS2.call hb3; have hrd3 := hrd2.below (hb3.mono e2.size); have hown3 := own_call hown2 hb3; have e3 := below_call e2 e2.size hb3; have lg6 : W.heap.size ≤ g6 := (by have := e2.size; omega); have n6s : gs ≠ g6 := (by have := hS2.lt; omega))
    | (refine wpList_store_all rfl 35 _ _ rfl g6 rfl hE3 (x.run z1).parts rfl LE.out oE IE.out ?_; intro w4 hE4 hO4; (try go_frame); have hS4 := hS3.only hO4 n6s; have hrd4 := hrd3.below (hO4.below _ lg6); have hown4 := own_only hown3 hE3 (by decide) hO4; have e4 := e3.trans (hO4.below _ lg6))
    | (refine wpList_load_all rfl 30 _ rfl gs rfl hS4 h30 rfl hSi ?_)
    | (go_at_call 34; refine (CS.out _).mono ?_; rintro e w5 ⟨rfl, hb5⟩; have hE5 := hE4.call hb5; have hrd5 := hrd4.below (hb5.mono e4.size); have hown5 := own_call hown4 hb5; have e5 := below_call e4 e4.size hb5)
    | (refine wpList_alloc rfl 35 rfl tk _ Z39 htk hx rfl ?_; intro g7 w6 hg7 hlt6 hX6 hb6; (try go_frame); have hE6 := hE5.call hb6; have hrd6 := hrd5.below (hb6.mono e5.size); have hown6 := own_call hown5 hb6; have e6 := below_call e5 e5.size hb6; have lg7 : W.heap.size ≤ g7 := (by have := e5.size; omega); have n67 : g6 ≠ g7 := (by have := hE5.lt; omega))
    | (refine wpList_store_all rfl 35 _ _ rfl g7 rfl hX6 x.parts rfl LX.out oX IX.out ?_; intro w7 hX7 hO7; (try go_frame); have hE7 := hE6.only hO7 n67; have hrd7 := hrd6.below (hO7.below _ lg7); have hown7 := own_only hown6 hX6 (by decide) hO7; have e7 := e6.trans (hO7.below _ lg7)))
  have hX7' : B w7 g7 35 (x.run (z1.take 0)).parts := hX7
  go_loopw [8] (fun i wr => ∃ k : Nat, k ≤ len1 ∧ i = .int .i64 (k : Int) ∧ B wr g7 35 (x.run (z1.take k)).parts ∧ B wr g6 35 (x.run z1).parts ∧ wr.ownsRow w1.heap.size 40 3 (.slice Av len1 cv) len1 (anss x z1 Ds) ∧ Reads wr W.heap.size 1 A1 len1 (steps64 z1) ∧ Below W.heap.size W wr) (fun i _ => len1 - (intOf i).toNat)
  case atStart => exact ⟨0, Nat.zero_le _, rfl, hX7', hE7, hown7, hrd7, e7⟩
  case round =>
    clear hX7' hX7 hE7 hown7 hrd7 e7 hX6 hE6 hrd6 hown6 e6 hO7 hb6 hE5 hrd5 hown5 e5 hb5 hE4 hS4 hrd4 hown4 e4 hO4 hE3 hS3 hrd3 hown3 e3 hb3 hS2 hrd2 hown2 e2 hb2 hvf hld hrd hrd1 hS1 hb1
    obtain ⟨k, hk, rfl, hX, hE, hown, hrd, hbel⟩ := hrel
    by_cases hlt : k < len1
    · have hlt' : (k : Int) < (len1 : Int) := by omega
      have hyok := G.run_ok hok0 (z1.take k)
      have htk : z1.take (k + 1) = z1.take k ++ [z1.getD k 0] := by
        rw [List.take_succ_eq_append_getElem (by rw [HZL.out]; exact hlt)]
        congr 2
        simp [List.getD, HZL.out, hlt]
      have hrn : x.run (z1.take (k + 1)) = (x.run (z1.take k)).stepG (z1.getD k 0) := by rw [htk, G.run_append]; rfl
      obtain ⟨a1, a2, _⟩ := HAG.out Ds k (by rw [HZL.out]; exact hlt) (by rw [hDl, HZL.out])
      obtain ⟨ad, us, hA, had, hus, hcs⟩ := hrd.at_ hlt
      rw [steps64_get z1 k (by rw [HZL.out]; exact hlt)] at hus
      obtain rfl := Option.some.inj hus
      subst hA
      have HRN := Lib.hid hrn
      have A1' := Lib.hid a1
      have A2' := Lib.hid a2
      clear hus htk hrn a1 a2
      generalize x.run (z1.take k) = y at hX hyok HRN A1' A2'
      generalize z1.getD k 0 = s at hcs HRN A1' A2'
      have CT := Lib.hid (fun w => sstep_any y hyok s w)
      have IY := Lib.hid (iParts y)
      have IT := Lib.hid (iParts (y.stepG s))
      have LT := Lib.hid (show (y.stepG s).parts.length = y.parts.length by rw [G.parts_length, G.parts_length])
      have oT := parts_one (y.stepG s)
      go_wp2_with fail
      refine wp_region_mix (fun w => w.cell? (ad.add k) = some (.int .i64 s)) [(true, 1), (true, 2), (true, 3), (true, 4), (false, 0), (false, 5), (true, 6), (true, 7), (true, 8), (true, 9), (false, 10), (false, 11), (false, 12)] (by kernel_rfl) (by kernel_rfl) (fun _ _ d _ _ h => by cases d <;> exact h) hcs ?_
      simp only [pickM, List.drop_succ_cons, List.drop_zero]
      refine wpMix_take ?_ (Or.inl ⟨by rfl, ?_⟩) ?_
      rotate_left
      · intro w hw; go_simp; try with_reducible rfl
      simp only [Act.put, List.setIfInBounds_toArray, List.set_cons_zero, List.set_cons_succ]
      refine wpMix_take ?_ (Or.inl ⟨by rfl, ?_⟩) ?_
      rotate_left
      · intro w hw; go_simp; try with_reducible rfl
      simp only [Act.put, List.setIfInBounds_toArray, List.set_cons_zero, List.set_cons_succ]
      refine wpMix_take ?_ (Or.inl ⟨by rfl, ?_⟩) ?_
      rotate_left
      · intro w hw; go_simp; try with_reducible rfl
      simp only [Act.put, List.setIfInBounds_toArray, List.set_cons_zero, List.set_cons_succ]
      refine wpMix_take ?_ (Or.inl ⟨by rfl, ?_⟩) ?_
      rotate_left
      · intro w hw; have f : w.cell? (ad.add k) = some (.int .i64 s) := hw; go_simp; try with_reducible rfl
      simp only [Act.put, List.setIfInBounds_toArray, List.set_cons_zero, List.set_cons_succ]
      have hX1 := hX.drew
      have hE1 := hE.drew
      have hown1 : wr.drew.ownsRow w1.heap.size 40 3 (.slice Av len1 cv) len1 (anss x z1 Ds) := hown
      have hrd1 := hrd.drew
      have e1 : Below W.heap.size W wr.drew := below_drewN hbel 1
      have hc1 : wr.drew.cell? (ad.add k) = some (.int .i64 s) := hcs
      generalize wr.drew = u1 at hX1 hE1 hown1 hrd1 e1 hc1 ⊢
      refine wpMix_step (fun K hK => ?_)
      refine step_load_all rfl 35 _ rfl g7 rfl hX1 h35 rfl IY.out ?_
      refine hK _ _ hc1 ?_
      clear hK K
      simp only [Act.put, List.setIfInBounds_toArray, List.set_cons_zero, List.set_cons_succ]
      refine wpMix_step (fun K hK => ?_)
      go_simp
      refine (CT.out _).mono ?_
      rintro e u2 ⟨rfl, hd2⟩
      have hX2 := hX1.call hd2
      have hE2 := hE1.call hd2
      have hown2' := own_call hown1 hd2
      have hrd2' := hrd1.below (hd2.mono e1.size)
      have e2' := below_call e1 e1.size hd2
      have hc2 : u2.cell? (ad.add k) = some (.int .i64 s) := (hd2.cell (p := ad.add k) (by rw [block_of_add]; have := e1.size; omega)).trans hc1
      go_simp
      refine hK _ _ hc2 ?_
      clear hK K
      refine wpMix_take ?_ (Or.inl ⟨by rfl, ?_⟩) ?_
      rotate_left
      · intro w hw; go_simp; try with_reducible rfl
      simp only [Act.put, List.setIfInBounds_toArray, List.set_cons_zero, List.set_cons_succ]
      refine wpMix_take ?_ (Or.inl ⟨by rfl, ?_⟩) ?_
      rotate_left
      · intro w hw; go_simp; try with_reducible rfl
      simp only [Act.put, List.setIfInBounds_toArray, List.set_cons_zero, List.set_cons_succ]
      refine wpMix_take ?_ (Or.inl ⟨by rfl, ?_⟩) ?_
      rotate_left
      · intro w hw; go_simp; try with_reducible rfl
      simp only [Act.put, List.setIfInBounds_toArray, List.set_cons_zero, List.set_cons_succ]
      refine wpMix_take ?_ (Or.inl ⟨by rfl, ?_⟩) ?_
      rotate_left
      · intro w hw; go_simp; try with_reducible rfl
      simp only [Act.put, List.setIfInBounds_toArray, List.set_cons_zero, List.set_cons_succ]
      refine wpMix_step (fun K hK => ?_)
      refine step_store_all rfl 35 _ _ rfl g7 rfl hX2 (y.stepG s).parts rfl LT.out oT IT.out ?_
      intro u3 hX3 hP3
      have hE3' := hE2.only hP3 n67
      have hown3' := own_only hown2' hX2 (by decide) hP3
      have hrd3' := hrd2'.below (hP3.below _ lg7)
      have e3' := e2'.trans (hP3.below _ lg7)
      have hc3 : u3.cell? (ad.add k) = some (.int .i64 s) := ((hP3.below W.heap.size lg7).cell (p := ad.add k) (by rw [block_of_add]; exact had)).trans hc2
      refine hK _ _ hc3 ?_
      clear hK K
      iterate 2
        refine wpMix_step (fun K hK => ?_)
        go_simp
        refine hK _ _ hc3 ?_
        clear hK K
      refine wpMix_nil ?_
      obtain ⟨Av', cv', hvv, hvf⟩ := own_slice hown3'
      injection hvv with e1v _ e2v
      subst e1v
      subst e2v
      obtain ⟨gv, rv, hAv, _, hcv, hBv⟩ := hvf (by omega)
      subst hAv
      have f0 : u3.cell? ⟨gv, k * 3, none⟩ = some (.bool (y.stepK s)) := by
        rw [hBv.cell, List.getElem?_append_left (List.getElem?_eq_some_iff.1 A1'.out).1, A1'.out]
      have f1 : u3.cell? ⟨gv, k * 3 + 1, none⟩ = some (.int .u64 (n64 (y.stepV s))) := by
        rw [hBv.cell, List.getElem?_append_left (List.getElem?_eq_some_iff.1 A2'.out).1, A2'.out]
      generalize hkk : y.stepK s = kb at f0
      generalize hvv' : y.stepV s = vv at f1
      clear hBv hvf
      go_wp2
      go_roundw
      case rel => exact ⟨k + 1, by omega, by go_num, (by rw [HRN.out]; exact hX3), hE3', hown3', hrd3', e3'⟩
      case measure => simp [intOf]; omega
    · have hge : (len1 : Int) ≤ (k : Int) := by omega
      have hkm : k = len1 := by omega
      have hLt : z1.take k = z1 := by rw [List.take_of_length_le (by rw [HZL.out]; omega)]
      rw [hLt] at hX
      have eqs := EQS.out
      clear hLt hkm
      generalize (x.run z1).parts = E at hX hE eqs IE
      go_wp2_with (first
        | (refine wpList_load_all rfl 35 _ rfl g6 rfl hE h35 rfl IE.out ?_)
        | (refine wpList_load_all rfl 35 _ rfl g7 rfl hX h35 rfl IE.out ?_))
      go_ret
      exact ⟨rfl, hbel⟩
end Go.Proofs.Ytjhpffenlhfilaa
