/- The walk of the reference's state of a key. -/
import Derived.Test.YtcmokpacocgolaaWSwap
namespace Go.Proofs.Ytcmokpacocgolaa.Rc
open Go.RowKit Mem

set_option maxRecDepth 100000 in
set_option maxHeartbeats 400000 in
theorem keyed_any (A : Option Addr) (n cap : Nat) (key : List Nat) (b : Nat) (w : World) (hk : Bytes w b A n key) (hb : b ≤ w.heap.size) (hn : 1 ≤ n) (hn2 : n ≤ 256) (hv : ∀ v ∈ key, v < 256) :
    Calls Try.prog 30 #[.slice A n cap] w fun e w' =>
      e = .returned (.agg (spc (keyed key)).toArray) ∧ Below w.heap.size w w' := by
  obtain ⟨ti, hti, hz, hsz⟩ := row35
  have hkl := hk.length
  have HKL := Lib.hid hkl
  clear hkl
  obtain ⟨ad, rfl, hadb, hkc0⟩ := hk.at_ (by omega)
  have HKC := Lib.hid hkc0
  clear hkc0 hk
  have hn1 : (1 : Int) ≤ (n : Int) := by omega
  have hn3 : (n : Int) ≤ 256 := by omega
  go_enter Try.func30, Try.ntmps30
  go_wp2_with (first
    | (refine wpList_alloc (o := ⟨some 2, _, _, _, _, _⟩) rfl 35 rfl ti _ (spc C0) hti hz rfl ?_; intro g1 w1 hg1 hlt1 hB1 hb1; (try go_frame))
    | (refine wpList_alloc (o := ⟨some 3, _, _, _, _, _⟩) rfl 35 rfl ti _ (spc C0) hti hz rfl ?_; intro g2 w2 hg2 hlt2 hB2 hb2; (try go_frame))
    | (refine wpList_build0 rfl 35 rfl _ build35 ?_)
    | (refine wpList_store_all rfl 35 _ _ rfl g2 rfl hB2 (spc C0) rfl rfl (spc_one C0) (by rw [size35, spc_length C0 zeros_length]) ?_; intro w3 hB3 hO3; (try go_frame)))
  have hne : g1 ≠ g2 := by omega
  have r3 : B w3 g1 35 (spc C0) := (hB1.call hb2).only hO3 hne
  have s1 := hb1.size
  have B3 : Below w.heap.size w w3 := (below_call hb1 hb1.size hb2).trans (hO3.below _ (by omega))
  clear hti hz hsz hB1 hB2 hb1 hb2 hO3
  go_loopw [4] (fun i wr => ∃ k : Nat, k ≤ 256 ∧ i = .int .i64 (k : Int) ∧ B wr g2 35 (spc ⟨fill k, 0, 0⟩) ∧ B wr g1 35 (spc C0) ∧ Below w.heap.size w wr) (fun i _ => 256 - (intOf i).toNat)
  case atStart => exact ⟨0, Nat.zero_le _, rfl, by rw [fill_zero]; exact hB3, r3, B3⟩
  case round =>
    obtain ⟨k, hk, rfl, hB, hR, hbel⟩ := hrel
    by_cases hlt : k < 256
    · have hlt' : (k : Int) < 256 := by omega
      go_wp2_with (refine wpList_store_one rfl 23 _ _ rfl g2 k rfl hB _ rfl (by rw [spc_length ⟨fill k, 0, 0⟩ (fill_length k)]; omega) rfl (by kernel_rfl) ?_; intro w4 hB4 hO4; (try go_frame))
      go_roundw
      case rel => exact ⟨k + 1, by omega, by go_num, by rw [← fill_succ, ← spc_setS ⟨fill k, 0, 0⟩ k k (by rw [fill_length]; omega)]; exact hB4, hR.only hO4 hne, hbel.trans (hO4.below _ (by omega))⟩
      case measure => simp [intOf]; omega
    · have hge : (256 : Int) ≤ (k : Int) := by omega
      have hfa : fill k = List.range 256 := by rw [show k = 256 by omega, fill_all]
      rw [hfa] at hB
      clear hfa
      go_wp2
      clear hlt hk hge
      obtain ⟨k0, rfl⟩ : ∃ k0 : Nat, k0 = k := ⟨_, rfl⟩
      obtain ⟨wo, rfl⟩ : ∃ wo : World, wo = wr := ⟨_, rfl⟩
      go_loopw [5, 6] (fun j i wr => ∃ k : Nat, k ≤ 256 ∧ i = .int .i64 (k : Int) ∧ j = .int .i64 ((ksa key k).2 : Nat) ∧ B wr g2 35 (spc ⟨(ksa key k).1, 0, 0⟩) ∧ B wr g1 35 (spc C0) ∧ Below w.heap.size w wr) (fun _ i _ => 256 - (intOf i).toNat)
      case atStart => exact ⟨0, Nat.zero_le _, rfl, by rw [ksa_zero]; rfl, by rw [ksa_zero]; exact hB, hR, hbel⟩
      case round =>
        obtain ⟨k, hk', rfl, rfl, hB', hR', hbel'⟩ := hrel
        have hlen := ksa_len key k
        have hltS := ksa_lt key k
        have hj := ksa_j key k
        have hsu := ksa_succ key k
        have HSU := Lib.hid hsu
        clear hsu
        generalize hg : ksa key k = st at hlen hltS hj hB' HSU ⊢
        obtain ⟨S, j0⟩ := st
        simp only at hlen hltS hj hB' ⊢
        have HST := Lib.hid hg
        clear hg
        have HL := Lib.hid hlen
        clear hlen
        by_cases hlt : k < 256
        · have hlt' : (k : Int) < 256 := by omega
          have sc : wr.cell? ⟨g2, k, none⟩ = some (.int .u32 (S.getD k 0 : Nat)) := (hB'.cell k).trans (spc_get ⟨S, 0, 0⟩ k (by show k < S.length; rw [HL.out]; exact hlt))
          have hm : k % n < n := Nat.mod_lt _ (by omega)
          have kc : wr.cell? (ad.add (k % n)) = some (.int .u8 (key.getD (k % n) 0 : Nat)) := (hbel'.cell (p := ad.add (k % n)) (by rw [block_of_add]; omega)).trans (HKC.out _ hm)
          have hx : S.getD k 0 < 256 := getD_lt hltS _
          have hy : key.getD (k % n) 0 < 256 := getD_lt hv _
          have hm' : (k : Int) % (n : Int) < (n : Int) := Int.emod_lt_of_pos _ (by omega)
          have hm0 : 0 ≤ (k : Int) % (n : Int) := Int.emod_nonneg _ (by omega)
          have hJe : ksaJ key S k j0 = (j0 + S.getD k 0 + key.getD (k % n) 0) % 256 := by unfold ksaJ; rw [HKL.out]
          have HJ := Lib.hid hJe
          clear hJe
          generalize hgx : S.getD k 0 = x at sc hx HJ
          generalize hgy : key.getD (k % n) 0 = y at kc hy HJ
          clear hgx hgy
          have hx' : (x : Int) < 256 := by omega
          have hy' : (y : Int) < 256 := by omega
          have hj' : (j0 : Int) < 256 := by omega
          go_wp2_with fail
          go_quiet (fail)
          have hsw : (swap S (k : Int).toNat ((((j0 : Int) + (x : Int) + (y : Int)) % 256).toNat)).length = 256 := by rw [swap_length, HL.out]
          have HW := Lib.hid hsw
          clear hsw sc kc
          have hBd := hB'.drewN nq
          have hRd := hR'.drewN nq
          have hbd := below_drewN hbel' nq
          generalize wr.drewN nq = w4 at hBd hRd hbd ⊢
          go_wp2_with (first
            | (refine wpList_load_part rfl 24 _ rfl g2 0 rfl hBd (u32s S) (spc_part ⟨S, 0, 0⟩) Try.underlying24 rfl (by rw [size24, u32s_length, HL.out]) ?_)
            | (go_at_call 32; refine (swapped_int S _ _ HL.out (by omega) (by omega) _).mono ?_; rintro e w5 ⟨rfl, hb5⟩; have e5 := hBd.call hb5; have r5 := hRd.call hb5)
            | (refine wpList_store_part rfl 24 _ _ rfl g2 0 rfl e5 (u32s (swap S (k : Int).toNat ((((j0 : Int) + (x : Int) + (y : Int)) % 256).toNat))) rfl (by rw [u32s_length, HW.out, spc_length ⟨S, 0, 0⟩ HL.out]; omega) (u32s_one _) (by rw [size24, u32s_length, HW.out]) ?_; intro w6 e6 hO6; (try go_frame)))
          go_roundw
          case rel =>
            have eJ : (((j0 : Int) + (x : Int) + (y : Int)) % 256).toNat = ksaJ key S k j0 := by rw [HJ.out]; omega
            have eK : ((k : Nat) : Int).toNat = k := by omega
            refine ⟨k + 1, by omega, by go_num, ?_, ?_, r5.only hO6 hne, (below_call hbd hbd.size hb5).trans (hO6.below _ (by omega))⟩
            · rw [HSU.out, HJ.out]; go_num
            · have h := e6
              rw [spc_put ⟨S, 0, 0⟩ _ HL.out HW.out, eJ, eK] at h
              rw [HSU.out]
              exact h
          case measure => simp [intOf]; omega
        · obtain rfl : k = 256 := by omega
          go_wp2_with (first
            | (refine wpList_load_all rfl 35 _ rfl g2 rfl hB' Try.underlying35 rfl (by rw [size35, spc_length ⟨S, 0, 0⟩ HL.out]) ?_)
            | (refine wpList_store_all rfl 35 _ _ rfl g1 rfl hR' (spc ⟨S, 0, 0⟩) rfl (by rw [spc_length ⟨S, 0, 0⟩ HL.out, spc_length C0 zeros_length]) (spc_one _) (by rw [size35, spc_length ⟨S, 0, 0⟩ HL.out]) ?_; intro w5 hB5 hO5; (try go_frame)))
          refine bodyPost_ret (results_block rfl _ w5 g1 35 (spc ⟨S, 0, 0⟩) _ rfl hB5 Try.underlying35 rfl (by rw [size35, spc_length ⟨S, 0, 0⟩ HL.out])) rfl ⟨?_, hbel'.trans (hO5.below _ hg1)⟩
          unfold keyed
          rw [HST.out]
end Go.Proofs.Ytcmokpacocgolaa.Rc
