/- The walk of the reference's Stream. -/
import Derived.Test.YtjhpffenlhfilaaWDraw
import Derived.Test.YtjhpffenlhfilaaWClone
namespace Go.Proofs.Ytjhpffenlhfilaa.Ch
open Go.RowKit Mem

/-- The numbers of the first j groups of a seed. -/
def allL (s0 s1 s2 s3 : V) : Nat → List V
  | 0 => []
  | j + 1 => allL s0 s1 s2 s3 j ++ blockL s0 s1 s2 s3 (BitVec.ofNat 32 (4 * j))
theorem allL_length (s0 s1 s2 s3 : V) (j : Nat) : (allL s0 s1 s2 s3 j).length = 32 * j := by
  induction j with
  | zero => rfl
  | succ j ih => rw [allL, List.length_append, ih, blockL_length]; omega
theorem allL_get (s0 s1 s2 s3 : V) (j : Nat) (hj : j < 4) (i : Nat) (hi : i < 32) : (allL s0 s1 s2 s3 4).getD (32 * j + i) 0 = (blockL s0 s1 s2 s3 (BitVec.ofNat 32 (4 * j))).getD i 0 := by
  have gl : ∀ (a b : List V) (k : Nat), k < a.length → (a ++ b).getD k 0 = a.getD k 0 := fun a b k h => by rw [List.getD_eq_getElem?_getD, List.getElem?_append_left h, List.getD_eq_getElem?_getD]
  have gr : ∀ (a b : List V) (k : Nat), (a ++ b).getD (a.length + k) 0 = b.getD k 0 := fun a b k => by rw [List.getD_eq_getElem?_getD, List.getElem?_append_right (by omega), Nat.add_sub_cancel_left, List.getD_eq_getElem?_getD]
  have l1 := allL_length s0 s1 s2 s3 1
  have l2 := allL_length s0 s1 s2 s3 2
  have l3 := allL_length s0 s1 s2 s3 3
  have e3 : allL s0 s1 s2 s3 4 = allL s0 s1 s2 s3 3 ++ blockL s0 s1 s2 s3 (BitVec.ofNat 32 (4 * 3)) := rfl
  have e2 : allL s0 s1 s2 s3 3 = allL s0 s1 s2 s3 2 ++ blockL s0 s1 s2 s3 (BitVec.ofNat 32 (4 * 2)) := rfl
  have e1 : allL s0 s1 s2 s3 2 = allL s0 s1 s2 s3 1 ++ blockL s0 s1 s2 s3 (BitVec.ofNat 32 (4 * 1)) := rfl
  have e0 : allL s0 s1 s2 s3 1 = blockL s0 s1 s2 s3 (BitVec.ofNat 32 (4 * 0)) := rfl
  match j, hj with
  | 0, _ => rw [e3, gl _ _ _ (by omega), e2, gl _ _ _ (by omega), e1, gl _ _ _ (by omega), e0, Nat.mul_zero, Nat.zero_add]
  | 1, _ => rw [e3, gl _ _ _ (by omega), e2, gl _ _ _ (by omega), e1, ← l1, gr]
  | 2, _ => rw [e3, gl _ _ _ (by omega), e2, ← l2, gr]
  | 3, _ => rw [e3, ← l3, gr]
/-- The first 124 of them are those that are told. -/
theorem allL_nth (s0 s1 s2 s3 : V) (i : Nat) (hi : i < 124) : (allL s0 s1 s2 s3 4).getD i 0 = (seeded s0 s1 s2 s3).nth i := by
  have r1 : (seeded s0 s1 s2 s3).refill = ⟨s0, s1, s2, s3, 1, 0⟩ := rfl
  have r2 : G.refill ⟨s0, s1, s2, s3, 1, 0⟩ = ⟨s0, s1, s2, s3, 2, 0⟩ := rfl
  have r3 : G.refill ⟨s0, s1, s2, s3, 2, 0⟩ = ⟨s0, s1, s2, s3, 3, 0⟩ := rfl
  have n1 : (seeded s0 s1 s2 s3).n = 32 := rfl
  have n2 : G.n ⟨s0, s1, s2, s3, 1, 0⟩ = 32 := rfl
  have n3 : G.n ⟨s0, s1, s2, s3, 2, 0⟩ = 32 := rfl
  have n4 : G.n ⟨s0, s1, s2, s3, 3, 0⟩ = 28 := rfl
  by_cases h1 : i < 32
  · have h := allL_get s0 s1 s2 s3 0 (by omega) i h1
    have g := G.nth_in (seeded s0 s1 s2 s3) i (by rw [n1]; show 0 + i < 32; omega)
    rw [Nat.mul_zero, Nat.zero_add] at h
    rw [h, g]
    show _ = (blockL s0 s1 s2 s3 (BitVec.ofNat 32 (4 * 0))).getD (0 + i) 0
    rw [Nat.zero_add]
  · have e1 := G.nth_group (seeded s0 s1 s2 s3) rfl (i - 32)
    rw [n1, r1, show 32 + (i - 32) = i by omega] at e1
    rw [e1]
    by_cases h2 : i < 64
    · have h := allL_get s0 s1 s2 s3 1 (by omega) (i - 32) (by omega)
      have g := G.nth_in ⟨s0, s1, s2, s3, 1, 0⟩ (i - 32) (by rw [n2]; show 0 + (i - 32) < 32; omega)
      rw [show 32 * 1 + (i - 32) = i by omega] at h
      rw [h, g]
      show _ = (blockL s0 s1 s2 s3 (BitVec.ofNat 32 (4 * 1))).getD (0 + (i - 32)) 0
      rw [Nat.zero_add]
    · have e2 := G.nth_group ⟨s0, s1, s2, s3, 1, 0⟩ rfl (i - 64)
      rw [n2, r2, show 32 + (i - 64) = i - 32 by omega] at e2
      rw [e2]
      by_cases h3 : i < 96
      · have h := allL_get s0 s1 s2 s3 2 (by omega) (i - 64) (by omega)
        have g := G.nth_in ⟨s0, s1, s2, s3, 2, 0⟩ (i - 64) (by rw [n3]; show 0 + (i - 64) < 32; omega)
        rw [show 32 * 2 + (i - 64) = i by omega] at h
        rw [h, g]
        show _ = (blockL s0 s1 s2 s3 (BitVec.ofNat 32 (4 * 2))).getD (0 + (i - 64)) 0
        rw [Nat.zero_add]
      · have e3 := G.nth_group ⟨s0, s1, s2, s3, 2, 0⟩ rfl (i - 96)
        rw [n3, r3, show 32 + (i - 96) = i - 64 by omega] at e3
        rw [e3]
        have h := allL_get s0 s1 s2 s3 3 (by omega) (i - 96) (by omega)
        have g := G.nth_in ⟨s0, s1, s2, s3, 3, 0⟩ (i - 96) (by rw [n4]; show 0 + (i - 96) < 28; omega)
        rw [show 32 * 3 + (i - 96) = i by omega] at h
        rw [h, g]
        show _ = (blockL s0 s1 s2 s3 (BitVec.ofNat 32 (4 * 3))).getD (0 + (i - 96)) 0
        rw [Nat.zero_add]
/-- The next seed. -/
def nx (s0 s1 s2 s3 : V) (j : Nat) : V := (blockL s0 s1 s2 s3 12).getD (28 + j) 0
theorem allL_next (s0 s1 s2 s3 : V) (j : Nat) (hj : j < 4) : (allL s0 s1 s2 s3 4).getD (124 + j) 0 = nx s0 s1 s2 s3 j := by
  have h := allL_get s0 s1 s2 s3 3 (by omega) (28 + j) (by omega)
  rw [show 32 * 3 + (28 + j) = 124 + j by omega] at h
  exact h
theorem iter_next (s0 s1 s2 s3 : V) (k : Nat) : (seeded s0 s1 s2 s3).nth (124 + k) = (seeded (nx s0 s1 s2 s3 0) (nx s0 s1 s2 s3 1) (nx s0 s1 s2 s3 2) (nx s0 s1 s2 s3 3)).nth k := seeded_iter s0 s1 s2 s3 k
def sliceLen : Value → Nat
  | .slice _ n _ => n
  | _ => 0
theorem own_lt2 {w : World} {base n size : Nat} {e : TypeId} {v : Value} {xs : List Value} (h : w.ownsRow base e size v n xs) : ∀ k, v.ownBlock = some k → k < w.heap.size := by
  intro k hk
  rcases h.2 with ⟨rfl, _⟩ | ⟨g', cap, cur, rfl, hg, hh, _⟩
  · simp [Value.ownBlock] at hk
  · obtain rfl : g' = k := by simpa [Value.ownBlock] using hk
    rcases Nat.lt_or_ge g' w.heap.size with hlt | hge
    · exact hlt
    · rw [Array.getElem?_eq_none hge] at hh; cases hh
theorem own_grown {w w' : World} {base n size : Nat} {e : TypeId} {v : Value} {xs : List Value} {row : Option Nat} (h : w.ownsRow base e size v n xs) (hg : w.grownBy w' row) (hne : ∀ k, v.ownBlock = some k → some k ≠ row) : w'.ownsRow base e size v n xs :=
  own_same h fun g he hlt => hg.block g hlt (hne g he)
theorem reads_of_B2 {w : World} {g n : Nat} {t : TypeId} {l : List Value} (h : B w g t l) (hl : l.length = n) : Reads w w.heap.size 1 (some ⟨g, 0, none⟩) n l :=
  ⟨by omega, fun _ => ⟨_, rfl, h.lt, fun j u hu => by rw [Addr.add_mid, Nat.zero_add, h.cell]; exact hu⟩⟩
theorem own_len {w : World} {base n size : Nat} {e : TypeId} {v : Value} {xs : List Value} (h : w.ownsRow base e size v n xs) : sliceLen v = n := by
  rcases h.2 with ⟨rfl, rfl⟩ | ⟨g, cap, cur, rfl, _⟩ <;> rfl

set_option maxRecDepth 100000 in
set_option maxHeartbeats 4000000 in
theorem stream_any (s0 s1 s2 s3 : V) (m : Nat) (hm : m ≤ 100000) (w : World) :
    Calls Try.prog 37 #[.agg (u64s [s0, s1, s2, s3]).toArray, .int .i64 (m : Int)] w fun e w' =>
      ∃ A c, e = .returned (.slice A m c) ∧ Reads w' w'.heap.size 1 A m (u64s ((seeded s0 s1 s2 s3).list m)) ∧ Below w.heap.size w w' := by
  obtain ⟨i0, hi0, hz0, hz1, hz2⟩ := info_parts info29
  obtain ⟨tj, htj, hy, _⟩ := row_of zero33'
  have hy' : tj.zero = some (.agg Z32.toArray) := hy
  have h30 := Try.underlying30
  have h33 := Try.underlying33
  generalize hxg : seeded s0 s1 s2 s3 = x
  have HX := Lib.hid hxg
  clear hxg
  go_enter Try.func37, Try.ntmps37
  go_wp2_with (refine wpList_box rfl 30 _ rfl _ (u64s [s0, s1, s2, s3]) rfl rfl ?_; intro gs w1 hgs hlt1 hS1 hb1; (try go_frame))
  have hown0 : (w1.alloc (.cells #[] 29)).ownsRow w.heap.size 29 1 (.slice (some ⟨w1.heap.size, 0, none⟩) 0 0) 0 (u64s (x.list 0)) := World.ownsRow_lit w1 #[] 0 hb1.size (by unfold maxLen; omega) rfl
  have hSa := hS1.alloc (.cells #[] 29)
  have Ba := hb1.alloc hb1.size (.cells #[] 29)
  clear hS1 hb1
  go_loopw [5] (fun out wr => ∃ (k : Nat) (t0 t1 t2 t3 : V), k ≤ m ∧ wr.ownsRow w.heap.size 29 1 out k (u64s (x.list k)) ∧ B wr gs 30 (u64s [t0, t1, t2, t3]) ∧ (k < m → ∀ i, x.nth (k + i) = (seeded t0 t1 t2 t3).nth i) ∧ Below w.heap.size w wr) (fun out _ => m - sliceLen out)
  case atStart => exact ⟨0, s0, s1, s2, s3, Nat.zero_le _, hown0, hSa, (fun _ i => by rw [Nat.zero_add, HX.out]), Ba⟩
  case round =>
    clear hown0 hSa Ba
    obtain ⟨k, t0, t1, t2, t3, hk, hown, hS, hnx, hbel⟩ := hrel
    have hlen := own_len hown
    obtain ⟨A, c, hv, hrd⟩ := reads_of_own hown
    subst hv
    have hm' : (m : Int) ≤ 100000 := by omega
    by_cases hlt : k < m
    · have hlt' : (k : Int) < (m : Int) := by omega
      have hnth := hnx hlt
      clear hnx hrd hlen
      go_wp2_with fail
      have hownA : (wr.alloc (.cells #[] 29)).ownsRow w.heap.size 29 1 (.slice (some ⟨wr.heap.size, 0, none⟩) 0 0) 0 (u64s (allL t0 t1 t2 t3 0)) := World.ownsRow_lit wr #[] 0 hbel.size (by unfold maxLen; omega) rfl
      have hown1 := World.ownsRow.alloc hown (.cells #[] 29)
      have hdis : ∀ g g', (Value.slice (some ⟨wr.heap.size, 0, none⟩) 0 0).ownBlock = some g → (Value.slice A k c).ownBlock = some g' → g ≠ g' := fun g g' h1 h2 => by
        have h3 := own_lt2 hown g' h2
        have h4 : wr.heap.size = g := by simpa [Value.ownBlock] using h1
        omega
      have hS1 := hS.alloc (.cells #[] 29)
      have hb1 := hbel.alloc hbel.size (.cells #[] 29)
      generalize Value.slice (some ⟨wr.heap.size, 0, none⟩) 0 0 = all0 at hownA hdis ⊢
      clear hown hS hbel
      generalize wr.alloc (.cells #[] 29) = wo at hownA hown1 hS1 hb1 ⊢
      generalize hog : Value.slice A k c = out0 at hown1 hdis
      have HOG := Lib.hid hog
      clear hog
      go_loopw [6, 7] (fun all ci wr => ∃ (j q : Nat), j ≤ 4 ∧ q = 4 * j ∧ ci = .int .i64 (q : Int) ∧ wr.ownsRow w.heap.size 29 1 all (32 * j) (u64s (allL t0 t1 t2 t3 j)) ∧ wr.ownsRow w.heap.size 29 1 out0 k (u64s (x.list k)) ∧
          (∀ g g', all.ownBlock = some g → out0.ownBlock = some g' → g ≠ g') ∧ B wr gs 30 (u64s [t0, t1, t2, t3]) ∧ Below w.heap.size w wr) (fun _ ci _ => 16 - (intOf ci).toNat)
      case atStart => exact ⟨0, 0, Nat.zero_le _, rfl, rfl, hownA, hown1, hdis, hS1, hb1⟩
      case round =>
        clear hownA hown1 hdis hS1 hb1
        obtain ⟨j, q, hj, hq, rfl, hownA, hown, hdis, hS, hbel⟩ := hrel
        by_cases hj4 : j < 4
        · have hq16 : (q : Int) < 16 := by omega
          have hq4 : (q : Int) ≤ 12 := by omega
          have hn : n32 (BitVec.ofNat 32 (4 * j)) = (q : Int) := by rw [n32_small _ (by omega), hq]
          have hal : u64s (allL t0 t1 t2 t3 (j + 1)) = u64s (allL t0 t1 t2 t3 j) ++ u64s (blockL t0 t1 t2 t3 (BitVec.ofNat 32 (4 * j))) := by rw [allL, u64s_append]
          have cB := fun w => blockSpec_any t0 t1 t2 t3 (BitVec.ofNat 32 (4 * j)) w
          rw [hn] at cB
          have hbl := blockL_length t0 t1 t2 t3 (BitVec.ofNat 32 (4 * j))
          generalize blockL t0 t1 t2 t3 (BitVec.ofNat 32 (4 * j)) = K at cB hal hbl
          have iK := Lib.hid (info32' _ hbl)
          have oK := u64s_one K
          have lK := Lib.hid (show (u64s K).length = Z32.length by rw [u64s_length, hbl, Z32_length])
          have lK2 := Lib.hid (show (u64s K).length = 32 by rw [u64s_length, hbl])
          have HAL := Lib.hid hal
          have HQ := Lib.hid hq
          clear hal hn hbl hq
          have sr := hbel.size
          go_wp2_with (first
            | (refine wpList_load_all rfl 30 _ rfl gs rfl hS h30 rfl (by kernel_rfl) ?_)
            | (go_at_call 33; refine (cB _).mono ?_; rintro e w5 ⟨rfl, hb5⟩; have hS5 := hS.call hb5; have hownA5 := own_call hownA hb5; have hown5 := own_call hown hb5; have e5 := below_call hbel sr hb5)
            | (refine wpList_alloc rfl 33 rfl tj _ Z32 htj hy' rfl ?_; intro g8 w6 hg8 hlt6 hK6 hb6; (try go_frame); have hS6 := hS5.call hb6; have hownA6 := own_call hownA5 hb6; have hown6 := own_call hown5 hb6; have e6 := below_call e5 e5.size hb6; have ns8 : gs ≠ g8 := (by have := hS5.lt; omega); have lg8 : w.heap.size ≤ g8 := (by have := e5.size; omega))
            | (refine wpList_store_all rfl 33 _ _ rfl g8 rfl hK6 (u64s K) rfl lK.out oK iK.out ?_; intro w7 hK7 hO7; (try go_frame); have hS7 := hS6.only hO7 ns8; have hownA7 := own_only hownA6 hK6 (by decide) hO7; have hown7 := own_only hown6 hK6 (by decide) hO7; have e7 := e6.trans (hO7.below _ lg8))
            | (at_builtin; refine wpList_append_any _ rfl (.tmp 24) (.tmp 25) _ rfl w.heap.size 29 i0 _ 1 8 Try.underlying46 hi0 hz0 hz1 hz2 rfl (by omega) _ (32 * j) (u64s (allL t0 t1 t2 t3 j)) rfl hownA7 w7.heap.size (some ⟨g8, 0, none⟩) 32 32 (u64s K) rfl (reads_of_B2 hK7 lK2.out) oK (by simp only [maxLen]; omega) (by omega) e7.size ?_; intro v9 w9 hown9 hg9 hat9))
          go_roundw
          case rel =>
            refine ⟨j + 1, q + 4, by omega, by rw [HQ.out]; omega, by go_num, ?_, own_grown hown7 hg9 ?_, ?_, hS7.grown hg9 (own_ne hownA7 hS7 (by decide)), e7.grown hg9 e7.size (own_base hownA7)⟩
            · rw [show 32 * (j + 1) = 32 * j + 32 by omega, HAL.out]; exact hown9
            · intro kk hkk hc
              exact hdis kk kk hc.symm hkk rfl
            · intro g1 g2 h1 h2
              rcases hat9 with h | h
              · exact hdis g1 g2 (h.symm.trans h1) h2
              · have h3 := own_lt2 hown7 g2 h2
                have h4 := h.symm.trans h1
                injection h4 with h4
                omega
          case measure => simp [intOf]; omega
        · have hq16 : (16 : Int) ≤ (q : Int) := by omega
          have hj4' : j = 4 := by omega
          rw [hj4'] at hownA
          have hownA' : wr.ownsRow w.heap.size 29 1 u6 128 (u64s (allL t0 t1 t2 t3 4)) := hownA
          obtain ⟨Aa, ca, hva, hra⟩ := reads_of_own hownA'
          have hlA := allL_length t0 t1 t2 t3 4
          have HLA := Lib.hid hlA
          have HALL := Lib.hid (fun i hi => allL_nth t0 t1 t2 t3 i hi)
          have HNXT := Lib.hid (fun i hi => allL_next t0 t1 t2 t3 i hi)
          have HITER := Lib.hid (fun i => iter_next t0 t1 t2 t3 i)
          have HNTH := Lib.hid hnth
          clear hownA hj4' hj4 hq hj hra hlA hnth
          generalize allL t0 t1 t2 t3 4 = AL at hownA' HLA HALL HNXT
          subst hva
          have hown0 : wr.ownsRow w.heap.size 29 1 out0 (k + 0) (u64s (x.list (k + 0))) := hown
          have hdis0 : ∀ g g', (Value.slice Aa 128 ca).ownBlock = some g → out0.ownBlock = some g' → g ≠ g' := hdis
          clear hown hdis
          go_wp2_with fail
          obtain ⟨wo, rfl⟩ : ∃ wo : World, wo = wr := ⟨_, rfl⟩
          go_loopw [5, 9] (fun out ii wr => ∃ i : Nat, i ≤ 124 ∧ ii = .int .i64 (i : Int) ∧ k + i ≤ m ∧ wr.ownsRow w.heap.size 29 1 out (k + i) (u64s (x.list (k + i))) ∧ wr.ownsRow w.heap.size 29 1 (.slice Aa 128 ca) 128 (u64s AL) ∧
              (∀ g g', (Value.slice Aa 128 ca).ownBlock = some g → out.ownBlock = some g' → g ≠ g') ∧ B wr gs 30 (u64s [t0, t1, t2, t3]) ∧ Below w.heap.size w wr) (fun _ ii _ => 124 - (intOf ii).toNat)
          case atStart => exact ⟨0, Nat.zero_le _, rfl, by omega, hown0, hownA', hdis0, hS, hbel⟩
          case round =>
            clear hown0 hownA' hdis0 hS hbel
            obtain ⟨i, hi, rfl, him, hown, hownA, hdis, hS, hbel⟩ := hrel
            have hlen := own_len hown
            obtain ⟨A2, c2, hv2, _⟩ := reads_of_own hown
            subst hv2
            obtain ⟨A3, c3, hv3, hra⟩ := reads_of_own hownA
            injection hv3 with e1 e2 e3
            subst e1
            subst e3
            have hi124 : (i : Int) ≤ 124 := by omega
            have hcast : ((k + i : Nat) : Int) = (k : Int) + (i : Int) := by omega
            by_cases hgo : i < 124 ∧ k + i < m
            · have g1 : (i : Int) < 124 := by omega
              have g2 : (k : Int) + (i : Int) < (m : Int) := by omega
              have g3 : k + i < m := hgo.2
              have g4 : (i : Int) < 128 := by omega
              have g5 : i < 128 := by omega
              have e0 := HALL.out i hgo.1
              have e00 := HNTH.out i
              obtain ⟨ad, u, hA3, _, hu, hc⟩ := hra.at_ (show i < 128 by omega)
              rw [u64s_get _ _ (by rw [HLA.out]; omega), e0, ← e00] at hu
              obtain rfl := Option.some.inj hu
              subst hA3
              have hls : u64s (x.list (k + (i + 1))) = u64s (x.list (k + i)) ++ [.int .u64 (n64 (x.nth (k + i)))] := by rw [show k + (i + 1) = k + i + 1 by omega, G.list_succ, u64s_append]; rfl
              have HLS := Lib.hid hls
              clear hls hu hra e0 e00 hgo
              generalize x.nth (k + i) = v at hc HLS
              generalize hq : u64s (x.list (k + i)) = Q at hown HLS
              have sr := hbel.size
              go_wp2_with (at_builtin; refine wpList_append_any _ rfl (.tmp 37) (.tmp 42) _ rfl w.heap.size 29 i0 _ 1 8 Try.underlying46 hi0 hz0 hz1 hz2 rfl (by omega) _ (k + i) Q rfl (World.ownsRow.alloc hown _) (wr.heap.size + 1) (some ⟨wr.heap.size, 0, none⟩) 1 1 [.int .u64 (n64 v)] rfl (new_one wr _ _) (by simp [Value.oneCell']) (by simp only [maxLen]; omega) (by omega) (by simp; omega) ?_; intro v7 w7 hown7 hg7 hat7)
              go_roundw
              case rel =>
                have hoa := World.ownsRow.alloc hown (.cells #[.int .u64 (n64 v)] 29)
                have hob := World.ownsRow.alloc hownA (.cells #[.int .u64 (n64 v)] 29)
                have hba := hS.alloc (.cells #[.int .u64 (n64 v)] 29)
                refine ⟨i + 1, by omega, by go_num, by omega, by rw [HLS.out]; exact hown7, own_grown hob hg7 ?_, ?_, hba.grown hg7 (own_ne hoa hba (by decide)), (hbel.alloc sr _).grown hg7 (by simp; omega) (own_base hoa)⟩
                · intro kk hkk hc
                  exact hdis kk kk hkk hc.symm rfl
                · intro g1 g2 h1 h2
                  rcases hat7 with h | h
                  · exact hdis g1 g2 h1 (h.symm.trans h2)
                  · have h3 := own_lt2 hob g1 h1
                    have h4 := h.symm.trans h2
                    injection h4 with h4
                    omega
              case measure => simp [intOf]; omega
            · have hend : i = 124 ∨ k + i = m := by omega
              obtain ⟨gq, cq, rq, hvq, _, _, hBq⟩ := own_B hownA (by omega)
              injection hvq with e1 _ e3
              subst e1
              subst e3
              have hcl : ∀ j, j < 4 → wr.cell? ⟨gq, 124 + j, none⟩ = some (.int .u64 (n64 (nx t0 t1 t2 t3 j))) := fun j hj => by
                rw [hBq.cell, List.getElem?_append_left (by rw [u64s_length, HLA.out]; omega), u64s_get _ _ (by rw [HLA.out]; omega), HNXT.out j hj]
              have hc0 : wr.cell? ⟨gq, 124, none⟩ = _ := hcl 0 (by omega)
              have hc1 : wr.cell? ⟨gq, 125, none⟩ = _ := hcl 1 (by omega)
              have hc2 : wr.cell? ⟨gq, 126, none⟩ = _ := hcl 2 (by omega)
              have hc3 : wr.cell? ⟨gq, 127, none⟩ = _ := hcl 3 (by omega)
              have hiter := HITER.out
              have HIT := Lib.hid hiter
              have hso := u64s_one [nx t0 t1 t2 t3 0, nx t0 t1 t2 t3 1, nx t0 t1 t2 t3 2, nx t0 t1 t2 t3 3]
              clear hra hiter hgo hcl hBq
              generalize nx t0 t1 t2 t3 0 = n0 at hc0 HIT hso
              generalize nx t0 t1 t2 t3 1 = n1 at hc1 HIT hso
              generalize nx t0 t1 t2 t3 2 = n2 at hc2 HIT hso
              generalize nx t0 t1 t2 t3 3 = n3 at hc3 HIT hso
              by_cases h124 : i < 124
              · have g1 : (i : Int) < 124 := by omega
                have g2 : (m : Int) ≤ (k : Int) + (i : Int) := by omega
                have g3 : ¬ k + i < m := by omega
                have f1 : (k : Int) < (m : Int) := by omega
                have y0 : (124 : Int) < 128 := by omega
                go_wp2_with fail
                go_still_tail 13, (by kernel_rfl)
                change wpList _ _ _ _ _ wr.drew
                have hS2 := hS.drew
                have hown2 : wr.drew.ownsRow w.heap.size 29 1 (.slice A2 (k + i) c2) (k + i) (u64s (x.list (k + i))) := hown
                have e2 : Below w.heap.size w wr.drew := below_drewN hbel 1
                clear hc0 hc1 hc2 hc3
                generalize wr.drew = v5 at hS2 hown2 e2 ⊢
                go_wp2_with (refine wpList_store_all rfl 30 _ _ rfl gs rfl hS2 (u64s [n0, n1, n2, n3]) rfl rfl hso (by kernel_rfl) ?_; intro w6 hS6 hO6; (try go_frame))
                have hown6 := own_only hown2 hS2 (by decide) hO6
                have e6 := e2.trans (hO6.below _ hgs)
                go_roundw
                case rel =>
                  refine ⟨k + i, n0, n1, n2, n3, him, hown6, hS6, fun hlt' q => ?_, e6⟩
                  have hi' : i = 124 := by omega
                  rw [hi', Nat.add_assoc, HNTH.out (124 + q)]
                  exact HIT.out q
                case measure => show m - (k + i) < m - k; omega
              · have g1 : (124 : Int) ≤ (i : Int) := by omega
                have f1 : (k : Int) < (m : Int) := by omega
                have y0 : (124 : Int) < 128 := by omega
                go_wp2_with fail
                go_still_tail 13, (by kernel_rfl)
                change wpList _ _ _ _ _ wr.drew
                have hS2 := hS.drew
                have hown2 : wr.drew.ownsRow w.heap.size 29 1 (.slice A2 (k + i) c2) (k + i) (u64s (x.list (k + i))) := hown
                have e2 : Below w.heap.size w wr.drew := below_drewN hbel 1
                clear hc0 hc1 hc2 hc3
                generalize wr.drew = v5 at hS2 hown2 e2 ⊢
                go_wp2_with (refine wpList_store_all rfl 30 _ _ rfl gs rfl hS2 (u64s [n0, n1, n2, n3]) rfl rfl hso (by kernel_rfl) ?_; intro w6 hS6 hO6; (try go_frame))
                have hown6 := own_only hown2 hS2 (by decide) hO6
                have e6 := e2.trans (hO6.below _ hgs)
                go_roundw
                case rel =>
                  refine ⟨k + i, n0, n1, n2, n3, him, hown6, hS6, fun hlt' q => ?_, e6⟩
                  have hi' : i = 124 := by omega
                  rw [hi', Nat.add_assoc, HNTH.out (124 + q)]
                  exact HIT.out q
                case measure => show m - (k + i) < m - k; omega
    · have hge : (m : Int) ≤ (k : Int) := by omega
      have hkm : k = m := by omega
      clear hnx hlen
      go_wp2
      go_ret
      subst hkm
      exact ⟨A, c, rfl, hrd, hbel⟩
end Go.Proofs.Ytjhpffenlhfilaa.Ch
