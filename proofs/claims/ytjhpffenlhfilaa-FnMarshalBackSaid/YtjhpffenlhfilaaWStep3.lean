/- The walk of the reference's Step. -/
import Derived.Test.YtjhpffenlhfilaaWStep2
namespace Go.Proofs.Ytjhpffenlhfilaa.Ch
open Go.RowKit Mem

set_option maxRecDepth 100000 in
set_option maxHeartbeats 4000000 in
theorem sstep_any (x : G) (hok : x.ok) (s : Int) (w : World) :
    Calls Try.prog 38 #[.agg x.parts.toArray, .int .i64 s] w fun e w' =>
      e = .returned (.tuple #[.agg (x.stepG s).parts.toArray, .int .u64 (n64 (x.stepV s)), .bool (x.stepK s)]) ∧ Below w.heap.size w w' := by
  obtain ⟨tk, htk, hx, _⟩ := row_of zero35
  have h35 := Try.underlying35
  have IX := Lib.hid (iParts x)
  by_cases hc0 : s = 0
  · by_cases hi : x.i < x.n
    · have hs0 : (s == 0) = true := beq_iff_eq.2 hc0
      have hG : x.stepG s = x.adv := by unfold G.stepG; rw [if_pos hc0, if_pos hi]
      have hV : x.stepV s = x.val := by unfold G.stepV; rw [if_pos ⟨hc0, hi⟩]
      have hK : x.stepK s = true := by unfold G.stepK; rw [if_pos hc0, decide_eq_true hi]
      rw [hG, hV, hK]
      clear hG hV hK
      have CC := Lib.hid (fun w => snext_some x hi w)
      have IY := Lib.hid (iParts (x.adv))
      have LY := Lib.hid (lParts (x.adv))
      have hpy := parts_one (x.adv)
      go_enter Try.func38, Try.ntmps38
      go_wp2_with (first
        | (refine wpList_box rfl 35 _ rfl _ x.parts rfl rfl ?_; intro gs w1 hgs hlt1 hS1 hb1; (try go_frame))
        | (refine wpList_alloc rfl 35 rfl tk _ Z39 htk hx rfl ?_; intro g2 w2 hg2 hlt2 hR2 hb2; (try go_frame); have hS2 := hS1.call hb2; have e2 := below_call hb1 hb1.size hb2; have lg2 : w.heap.size ≤ g2 := (by have := hb1.size; omega))
        | (refine wpList_load_all rfl 35 _ rfl gs rfl hS2 h35 rfl IX.out ?_)
        | (go_at_call 56; refine (CC.out _).mono ?_; rintro e w3 ⟨rfl, hb3⟩; have hR3 := hR2.call hb3; have e3 := below_call e2 e2.size hb3)
        | (refine wpList_store_all rfl 35 _ _ rfl g2 rfl hR3 (x.adv).parts rfl LY.out hpy IY.out ?_; intro w6 hR6 hO6; (try go_frame); have e6 := e3.trans (hO6.below _ lg2)))
      refine bodyPost_ret (results_block_tmps2 rfl _ _ g2 35 (x.adv).parts _ rfl hR6 h35 rfl IY.out) rfl ?_
      exact ⟨rfl, e6⟩
    · have hs0 : (s == 0) = true := beq_iff_eq.2 hc0
      have hG : x.stepG s = x := by unfold G.stepG; rw [if_pos hc0, if_neg hi]
      have hV : x.stepV s = 0 := by unfold G.stepV; rw [if_neg (fun h => hi h.2)]
      have hK : x.stepK s = false := by unfold G.stepK; rw [if_pos hc0, decide_eq_false hi]
      rw [hG, hV, hK]
      clear hG hV hK
      have CC := Lib.hid (fun w => snext_none x hi w)
      have IY := Lib.hid (iParts (x))
      have LY := Lib.hid (lParts (x))
      have hpy := parts_one (x)
      go_enter Try.func38, Try.ntmps38
      go_wp2_with (first
        | (refine wpList_box rfl 35 _ rfl _ x.parts rfl rfl ?_; intro gs w1 hgs hlt1 hS1 hb1; (try go_frame))
        | (refine wpList_alloc rfl 35 rfl tk _ Z39 htk hx rfl ?_; intro g2 w2 hg2 hlt2 hR2 hb2; (try go_frame); have hS2 := hS1.call hb2; have e2 := below_call hb1 hb1.size hb2; have lg2 : w.heap.size ≤ g2 := (by have := hb1.size; omega))
        | (refine wpList_load_all rfl 35 _ rfl gs rfl hS2 h35 rfl IX.out ?_)
        | (go_at_call 56; refine (CC.out _).mono ?_; rintro e w3 ⟨rfl, hb3⟩; have hR3 := hR2.call hb3; have e3 := below_call e2 e2.size hb3)
        | (refine wpList_store_all rfl 35 _ _ rfl g2 rfl hR3 (x).parts rfl LY.out hpy IY.out ?_; intro w6 hR6 hO6; (try go_frame); have e6 := e3.trans (hO6.below _ lg2)))
      refine bodyPost_ret (results_block_tmps2 rfl _ _ g2 35 (x).parts _ rfl hR6 h35 rfl IY.out) rfl ?_
      exact ⟨rfl, e6⟩
  · have hs0 : (s == 0) = false := beq_eq_false_iff_ne.2 hc0
    by_cases hc1 : s = 1
    · have hs1 : (s == 1) = true := beq_iff_eq.2 hc1
      have hG : x.stepG s = x.refill := by unfold G.stepG; rw [if_neg hc0, if_pos hc1]
      have hV : x.stepV s = 0 := by unfold G.stepV; rw [if_neg (fun h => hc0 h.1)]
      have hK : x.stepK s = true := by unfold G.stepK; rw [if_neg hc0, decide_eq_true (.inl hc1)]
      rw [hG, hV, hK]
      clear hG hV hK
      have CC := Lib.hid (fun w => srefill_any x hok w)
      have IY := Lib.hid (iParts (x.refill))
      have LY := Lib.hid (lParts (x.refill))
      have hpy := parts_one (x.refill)
      go_enter Try.func38, Try.ntmps38
      go_wp2_with (first
        | (refine wpList_box rfl 35 _ rfl _ x.parts rfl rfl ?_; intro gs w1 hgs hlt1 hS1 hb1; (try go_frame))
        | (refine wpList_alloc rfl 35 rfl tk _ Z39 htk hx rfl ?_; intro g2 w2 hg2 hlt2 hR2 hb2; (try go_frame); have hS2 := hS1.call hb2; have e2 := below_call hb1 hb1.size hb2; have lg2 : w.heap.size ≤ g2 := (by have := hb1.size; omega))
        | (refine wpList_load_all rfl 35 _ rfl gs rfl hS2 h35 rfl IX.out ?_)
        | (go_at_call 57; refine (CC.out _).mono ?_; rintro e w3 ⟨rfl, hb3⟩; have hR3 := hR2.call hb3; have e3 := below_call e2 e2.size hb3)
        | (refine wpList_store_all rfl 35 _ _ rfl g2 rfl hR3 (x.refill).parts rfl LY.out hpy IY.out ?_; intro w6 hR6 hO6; (try go_frame); have e6 := e3.trans (hO6.below _ lg2)))
      refine bodyPost_ret (results_block_tmps2 rfl _ _ g2 35 (x.refill).parts _ rfl hR6 h35 rfl IY.out) rfl ?_
      exact ⟨rfl, e6⟩
    · have hs1 : (s == 1) = false := beq_eq_false_iff_ne.2 hc1
      by_cases hc2 : s = 2
      · have hs2 : (s == 2) = true := beq_iff_eq.2 hc2
        have hG : x.stepG s = x.reseed := by unfold G.stepG; rw [if_neg hc0, if_neg hc1, if_pos hc2]
        have hV : x.stepV s = 0 := by unfold G.stepV; rw [if_neg (fun h => hc0 h.1)]
        have hK : x.stepK s = true := by unfold G.stepK; rw [if_neg hc0, decide_eq_true (.inr (.inl hc2))]
        rw [hG, hV, hK]
        clear hG hV hK
        have CC := Lib.hid (fun w => sreseed_any x hok w)
        have IY := Lib.hid (iParts (x.reseed))
        have LY := Lib.hid (lParts (x.reseed))
        have hpy := parts_one (x.reseed)
        go_enter Try.func38, Try.ntmps38
        go_wp2_with (first
          | (refine wpList_box rfl 35 _ rfl _ x.parts rfl rfl ?_; intro gs w1 hgs hlt1 hS1 hb1; (try go_frame))
          | (refine wpList_alloc rfl 35 rfl tk _ Z39 htk hx rfl ?_; intro g2 w2 hg2 hlt2 hR2 hb2; (try go_frame); have hS2 := hS1.call hb2; have e2 := below_call hb1 hb1.size hb2; have lg2 : w.heap.size ≤ g2 := (by have := hb1.size; omega))
          | (refine wpList_load_all rfl 35 _ rfl gs rfl hS2 h35 rfl IX.out ?_)
          | (go_at_call 58; refine (CC.out _).mono ?_; rintro e w3 ⟨rfl, hb3⟩; have hR3 := hR2.call hb3; have e3 := below_call e2 e2.size hb3)
          | (refine wpList_store_all rfl 35 _ _ rfl g2 rfl hR3 (x.reseed).parts rfl LY.out hpy IY.out ?_; intro w6 hR6 hO6; (try go_frame); have e6 := e3.trans (hO6.below _ lg2)))
        refine bodyPost_ret (results_block_tmps2 rfl _ _ g2 35 (x.reseed).parts _ rfl hR6 h35 rfl IY.out) rfl ?_
        exact ⟨rfl, e6⟩
      · have hs2 : (s == 2) = false := beq_eq_false_iff_ne.2 hc2
        by_cases hc4 : s = 4
        · have hs4 : (s == 4) = true := beq_iff_eq.2 hc4
          have hG : x.stepG s = x.full := by unfold G.stepG; rw [if_neg hc0, if_neg hc1, if_neg hc2, if_pos hc4]
          have hV : x.stepV s = 0 := by unfold G.stepV; rw [if_neg (fun h => hc0 h.1)]
          have hK : x.stepK s = true := by unfold G.stepK; rw [if_neg hc0, decide_eq_true (.inr (.inr (.inr hc4)))]
          rw [hG, hV, hK]
          clear hG hV hK
          have CC := Lib.hid (fun w => sfull_any x hok w)
          have IY := Lib.hid (iParts (x.full))
          have LY := Lib.hid (lParts (x.full))
          have hpy := parts_one (x.full)
          go_enter Try.func38, Try.ntmps38
          go_wp2_with (first
            | (refine wpList_box rfl 35 _ rfl _ x.parts rfl rfl ?_; intro gs w1 hgs hlt1 hS1 hb1; (try go_frame))
            | (refine wpList_alloc rfl 35 rfl tk _ Z39 htk hx rfl ?_; intro g2 w2 hg2 hlt2 hR2 hb2; (try go_frame); have hS2 := hS1.call hb2; have e2 := below_call hb1 hb1.size hb2; have lg2 : w.heap.size ≤ g2 := (by have := hb1.size; omega))
            | (refine wpList_load_all rfl 35 _ rfl gs rfl hS2 h35 rfl IX.out ?_)
            | (go_at_call 59; refine (CC.out _).mono ?_; rintro e w3 ⟨rfl, hb3⟩; have hR3 := hR2.call hb3; have e3 := below_call e2 e2.size hb3)
            | (refine wpList_store_all rfl 35 _ _ rfl g2 rfl hR3 (x.full).parts rfl LY.out hpy IY.out ?_; intro w6 hR6 hO6; (try go_frame); have e6 := e3.trans (hO6.below _ lg2)))
          refine bodyPost_ret (results_block_tmps2 rfl _ _ g2 35 (x.full).parts _ rfl hR6 h35 rfl IY.out) rfl ?_
          exact ⟨rfl, e6⟩
        · have hs4 : (s == 4) = false := beq_eq_false_iff_ne.2 hc4
          by_cases hc3 : s = 3
          · have hs3 : (s == 3) = true := beq_iff_eq.2 hc3
            have hG : x.stepG s = x := by unfold G.stepG; rw [if_neg hc0, if_neg hc1, if_neg hc2, if_neg hc4]
            have hV : x.stepV s = 0 := by unfold G.stepV; rw [if_neg (fun h => hc0 h.1)]
            have hK : x.stepK s = true := by unfold G.stepK; rw [if_neg hc0, decide_eq_true (.inr (.inr (.inl hc3)))]
            rw [hG, hV, hK]
            clear hG hV hK
            have IY := Lib.hid (iParts (x))
            have LY := Lib.hid (lParts (x))
            have hpy := parts_one (x)
            go_enter Try.func38, Try.ntmps38
            go_wp2_with (first
              | (refine wpList_box rfl 35 _ rfl _ x.parts rfl rfl ?_; intro gs w1 hgs hlt1 hS1 hb1; (try go_frame))
              | (refine wpList_alloc rfl 35 rfl tk _ Z39 htk hx rfl ?_; intro g2 w2 hg2 hlt2 hR2 hb2; (try go_frame); have hS2 := hS1.call hb2; have e2 := below_call hb1 hb1.size hb2; have lg2 : w.heap.size ≤ g2 := (by have := hb1.size; omega))
              | (refine wpList_load_all rfl 35 _ rfl gs rfl hS2 h35 rfl IX.out ?_)
              | (refine wpList_store_all rfl 35 _ _ rfl g2 rfl hR2 (x).parts rfl LY.out hpy IY.out ?_; intro w6 hR6 hO6; (try go_frame); have e6 := e2.trans (hO6.below _ lg2)))
            refine bodyPost_ret (results_block_tmps2 rfl _ _ g2 35 (x).parts _ rfl hR6 h35 rfl IY.out) rfl ?_
            exact ⟨rfl, e6⟩
          · have hs3 : (s == 3) = false := beq_eq_false_iff_ne.2 hc3
            have hG : x.stepG s = x := by unfold G.stepG; rw [if_neg hc0, if_neg hc1, if_neg hc2, if_neg hc4]
            have hV : x.stepV s = 0 := by unfold G.stepV; rw [if_neg (fun h => hc0 h.1)]
            have hK : x.stepK s = false := by unfold G.stepK; rw [if_neg hc0, decide_eq_false (by omega)]
            rw [hG, hV, hK]
            clear hG hV hK
            have IY := Lib.hid (iParts (x))
            have LY := Lib.hid (lParts (x))
            have hpy := parts_one (x)
            go_enter Try.func38, Try.ntmps38
            go_wp2_with (first
              | (refine wpList_box rfl 35 _ rfl _ x.parts rfl rfl ?_; intro gs w1 hgs hlt1 hS1 hb1; (try go_frame))
              | (refine wpList_alloc rfl 35 rfl tk _ Z39 htk hx rfl ?_; intro g2 w2 hg2 hlt2 hR2 hb2; (try go_frame); have hS2 := hS1.call hb2; have e2 := below_call hb1 hb1.size hb2; have lg2 : w.heap.size ≤ g2 := (by have := hb1.size; omega))
              | (refine wpList_load_all rfl 35 _ rfl gs rfl hS2 h35 rfl IX.out ?_)
              | (refine wpList_store_all rfl 35 _ _ rfl g2 rfl hR2 (x).parts rfl LY.out hpy IY.out ?_; intro w6 hR6 hO6; (try go_frame); have e6 := e2.trans (hO6.below _ lg2)))
            refine bodyPost_ret (results_block_tmps2 rfl _ _ g2 35 (x).parts _ rfl hR6 h35 rfl IY.out) rfl ?_
            exact ⟨rfl, e6⟩
end Go.Proofs.Ytjhpffenlhfilaa.Ch
