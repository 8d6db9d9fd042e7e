/- The walks of the thin package's Unmarshal and the reference's Same. -/
import Derived.Test.YtjhpffenlhfilaaWRun
import Derived.Test.YtjhpffenlhfilaaLRun
namespace Go.Proofs.Ytjhpffenlhfilaa.Ch
open Go.RowKit Mem

section
variable {P : Program}
theorem results_block_two {fn : Func} {p q r : Tmp} {ty : TypeId} (h : fn.results = #[.cell p ty, .tmp q, .tmp r]) (tmps : Array Value) (w : World) (g : Nat) (t : TypeId) (l : List Value) (d : TypeDesc)
    (hp : tmps.getD p undef = .pointer (some ⟨g, 0, none⟩)) (hg : B w g t l)
    (hu : P.underlying ty = some d) (hd : d.isRow = true) (hi : (P.info? ty).map (·.size) = some l.length) :
    (results fn tmps).run P w = .ok (.tuple #[.agg l.toArray, tmps.getD q undef, tmps.getD r undef]) w := by
  have hp' : tmps[p]?.getD undef = .pointer (some ⟨g, 0, none⟩) := by simpa using hp
  have hl := run_loadVar_row (P := P) w g t ty l.toArray (0, 0) d hg hu (by cases d <;> simp_all) (by simpa using hi)
  simp [results, h, hp', asAddr, hl]
end

theorem unm_bad (p v : Value) (n base : Nat) (bs : List Y) (w : World) (hown : w.ownsRow base 5 1 v n (b8s bs)) (hv : ¬ validB bs) :
    Calls Try.prog 47 #[p, v] w fun e w' =>
      (∃ v, e = .returned (.iface 88 v)) ∧ Below w.heap.size w w' := by
  have hl : bs.length = n := by have := hown.1; rwa [b8s_length, Nat.mul_one] at this
  by_cases hn : n = 48
  · subst hn
    obtain ⟨g, cap, r, rfl, _, hcap, hB⟩ := own_B hown (by omega)
    have ht : (b8s bs ++ r).take 48 = b8s bs := by rw [List.take_append_of_le_length (by rw [b8s_length, hl]; omega), List.take_of_length_le (by rw [b8s_length, hl]; omega)]
    by_cases hh : bs.take 8 = hdr
    · refine unmarshal_used p g cap _ bs hl ht hcap hh ?_ w hB
      rcases Nat.lt_or_ge 124 (usedB bs) with h | h
      · exact h
      · exact absurd ⟨hl, hh, h⟩ hv
    · exact unmarshal_hdr p g cap _ bs hl ht hcap hh w hB
  · obtain ⟨A, c, rfl, _⟩ := own_slice hown
    exact unmarshal_len p A n c hn w

theorem build35_zero (w : World) : (Instr.build 35 #[]).run Try.prog w = .ok (.agg Z39.toArray) w := by kernel_rfl

set_option maxRecDepth 100000 in
set_option maxHeartbeats 1000000 in
theorem implUn_bad (ad : Addr) (n cap : Nat) (bs : List Y) (b : Nat) (w : World) (hr : Reads w b 1 (some ad) n (b8s bs)) (hb : b ≤ w.heap.size) (hn : n ≤ 2147483647) (hv : ¬ validB bs) :
    Calls Try.prog 25 #[.slice (some ad) n cap] w fun e w' =>
      e = .returned (.tuple #[.agg Z39.toArray, .slice none 0 0, .bool false]) ∧ Below w.heap.size w w' := by
  obtain ⟨tk, htk, hx, _⟩ := row_of zero35
  have h35 := Try.underlying35
  have bld := buildS
  have bldz := build35_zero
  have iZ : (Try.prog.info? 35).map (·.size) = some Z39.length := by rw [size35]; rfl
  have hOneZ : ∀ v ∈ Z39, v.oneCell' = true := by decide
  go_enter Try.func25, Try.ntmps25
  go_wp2_with (first
    | (refine wpList_alloc rfl 35 rfl tk _ Z39 htk hx rfl ?_; intro gr w1 hgr hlt1 hR1 hb1; (try go_frame); have e1 := hb1; have hrd1 := hr.below (hb1.mono hb))
    | (refine wpList_build0 rfl 68 rfl _ bld ?_; (try go_frame))
    | (refine wpList_box rfl 68 _ rfl _ ZS rfl rfl ?_; intro g w2 hg hlt2 hG2 hb2; (try go_frame); have hR2 := hR1.call hb2; have e2 := below_call e1 e1.size hb2; have hrd2 := hrd1.below (hb2.mono (by have := e1.size; omega)))
    | (go_at_call 45; refine (clone_any ad n cap bs b w2 hrd2 (by have := e2.size; omega) hn).mono ?_; rintro e w3 ⟨vq, rfl, hq3, hb3⟩; have hR3 := hR2.call hb3; have e3 := below_call e2 e2.size hb3)
    | (go_at_call 47; refine (unm_bad _ vq n _ bs w3 hq3 hv).mono ?_; rintro e w4 ⟨⟨ve, rfl⟩, hb4⟩; have hR4 := hR3.call hb4; have e4 := below_call e3 e3.size hb4)
    | (refine wpList_build0 rfl 35 rfl _ bldz ?_; (try go_frame))
    | (refine wpList_store_all rfl 35 _ _ rfl gr rfl hR4 Z39 rfl rfl hOneZ iZ ?_; intro w5 hR5 hO5; (try go_frame); have e5 := e4.trans (hO5.below _ (by omega))))
  exact bodyPost_ret (results_block_two rfl _ _ gr 35 Z39 _ rfl hR5 h35 rfl iZ) rfl ⟨rfl, e5⟩

set_option maxRecDepth 100000 in
set_option maxHeartbeats 1000000 in
theorem implUn_ok (hbl : BlockC) (ad : Addr) (cap : Nat) (bs : List Y) (b : Nat) (w : World) (hr : Reads w b 1 (some ad) 48 (b8s bs)) (hb : b ≤ w.heap.size) (hv : validB bs) :
    Calls Try.prog 25 #[.slice (some ad) 48 cap] w fun e w' =>
      ∃ gq cq r, e = .returned (.tuple #[.agg (ofB bs).parts.toArray, .slice (some ⟨gq, 0, none⟩) 48 cq, .bool true]) ∧ w.heap.size ≤ gq ∧ 48 ≤ cq ∧ B w' gq 5 (b8s bs ++ r) ∧ Below w.heap.size w w' := by
  obtain ⟨tk, htk, hx, _⟩ := row_of zero35
  have h35 := Try.underlying35
  have bld := buildS
  have hml : (ofB bs).mar.length = 48 := (ofB bs).mar_length
  have hmar := mar_ofB bs hv
  have hl := hv.1
  have hok := ofB_ok hv
  have CU := Lib.hid (fun g' gd cap D h1 h2 w h3 h4 => unmarshal_ok hbl g' (u64s (List.replicate 32 0)) (by simp [u64s]) (.int .u64 0) (.int .u64 0) (.int .u64 0) (.int .u64 0) (.int .u32 0) (.int .u32 0) (.int .u32 0) gd cap D bs h1 h2 hv w h3 h4)
  rw [← ZS_st] at CU
  have CP := Lib.hid (fun g w h => partsOf_any g (ofB bs) hok w h)
  have CM := Lib.hid (fun g w h => marshal_any g (ofB bs) hok w h)
  have iE := iParts (ofB bs)
  have lE := lParts (ofB bs)
  have oE := parts_one (ofB bs)
  have IE := Lib.hid iE
  have LE := Lib.hid lE
  clear iE lE hv
  go_enter Try.func25, Try.ntmps25
  go_wp2_with (first
    | (refine wpList_alloc rfl 35 rfl tk _ Z39 htk hx rfl ?_; intro gr w1 hgr hlt1 hR1 hb1; (try go_frame); have e1 := hb1; have hrd1 := hr.below (hb1.mono hb))
    | (refine wpList_build0 rfl 68 rfl _ bld ?_; (try go_frame))
    | (refine wpList_box rfl 68 _ rfl _ ZS rfl rfl ?_; intro g w2 hg hlt2 hG2 hb2; (try go_frame); have hR2 := hR1.call hb2; have e2 := below_call e1 e1.size hb2; have hrd2 := hrd1.below (hb2.mono (by have := e1.size; omega)); have lg : w.heap.size ≤ g := (by have := e1.size; omega); have nrg : gr ≠ g := hR2.ne_ hG2 (by decide))
    | (go_at_call 45; refine (clone_any ad 48 cap bs b w2 hrd2 (by have := e2.size; omega) (by omega)).mono ?_; rintro e w3 ⟨vq, rfl, hq3, hb3⟩; have hR3 := hR2.call hb3; have hG3 := hG2.call hb3; have e3 := below_call e2 e2.size hb3; obtain ⟨gq, cq, rq, rfl, hgq, hcq, hQ3⟩ := own_B hq3 (by omega); have cu := CU.out g gq cq _ (by rw [List.take_append_of_le_length (by rw [b8s_length, hl]; omega), List.take_of_length_le (by rw [b8s_length, hl]; omega)]) hcq w3 hG3 hQ3)
    | (go_at_call 47; refine cu.mono ?_; rintro e w4 ⟨rfl, hG4, hp4⟩; have hR4 := B_past hR3 hp4 nrg; have e4 := below_past e3 lg e3.size hp4; have cp := CP.out g w4 hG4)
    | (go_at_call 48; refine cp.mono ?_; rintro e w5 ⟨rfl, hb5⟩; have hR5 := hR4.call hb5; have hG5 := hG4.call hb5; have e5 := below_call e4 e4.size hb5; have cm := CM.out g w5 hG5)
    | (go_at_call 46; refine cm.mono ?_; rintro e w6 ⟨gd, rfl, hgd, hD6, hb6⟩; have hR6 := hR5.call hb6; have e6 := below_call e5 e5.size hb6)
    | (go_at_call 45; refine (clone_any ⟨gd, 0, none⟩ 48 48 _ w6.heap.size _ (reads_of_B hD6 (by rw [b8s_length, hml])) (Nat.le_refl _) (by omega)).mono ?_; rintro e w7 ⟨vs, rfl, hq7, hb7⟩; have hR7 := hR6.call hb7; have e7 := below_call e6 e6.size hb7; obtain ⟨gs, cs, rs, rfl, hgs, hcs, hS7⟩ := own_B hq7 (by omega); have nsr : gs ≠ gr := hS7.ne_ hR7 (by decide))
    | (refine wpList_store_all rfl 35 _ _ rfl gr rfl hR7 (ofB bs).parts rfl LE.out oE IE.out ?_; intro w8 hR8 hO8; (try go_frame); have hS8 := hS7.only hO8 nsr; have e8 := e7.trans (hO8.below _ (by omega))))
  rw [hmar] at hS8
  have z2 := e6.size
  exact bodyPost_ret (results_block_two rfl _ _ gr 35 (ofB bs).parts _ rfl hR8 h35 rfl IE.out) rfl ⟨gs, cs, rs, rfl, by omega, hcs, hS8, e8⟩

set_option maxRecDepth 100000 in
set_option maxHeartbeats 1000000 in
theorem same_any (g g' n c c' : Nat) (bs : List Y) (r r' : List Value) (hl : bs.length = n) (w : World) (hB : B w g 5 (b8s bs ++ r)) (hB' : B w g' 5 (b8s bs ++ r')) :
    Calls Try.prog 26 #[.slice (some ⟨g, 0, none⟩) n c, .slice (some ⟨g', 0, none⟩) n c'] w fun e w' => e = .returned (.bool true) ∧ Below w.heap.size w w' := by
  have cell : ∀ (g0 : Nat) (r0 : List Value), B w g0 5 (b8s bs ++ r0) → ∀ j v, (b8s bs)[j]? = some v → w.cell? ((⟨g0, 0, none⟩ : Addr).add j) = some v := fun g0 r0 h j v hj => by
    rw [Addr.add_mid, Nat.zero_add, h.cell, List.getElem?_append_left (List.getElem?_eq_some_iff.1 hj).1, hj]
  have h1 := run_conv8 (w := w) (cap := c) hl (cell g r hB)
  have h2 := run_conv8 (w := w) (cap := c') hl (cell g' r' hB')
  have h3 : ((strOf bs).toList == (strOf bs).toList) = true := beq_self_eq_true _
  go_enter Try.func26, Try.ntmps26
  go_wp2
  go_ret
  exact ⟨rfl, Below.refl _ _⟩
end Go.Proofs.Ytjhpffenlhfilaa.Ch
