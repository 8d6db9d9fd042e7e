/- The walk of the package's NewCipher: a right key; a wrong one. -/
import Derived.Test.YtcmokpacocgolaaWNum
namespace Go.Proofs.Ytcmokpacocgolaa.Rc
open Go.RowKit Mem

set_option maxHeartbeats 400000 in
theorem new_wrong (A : Option Addr) (n cap : Nat) (w : World) (h : n < 1 ∨ 256 < n) (hn : n ≤ 9223372036854775807) :
    Calls Try.prog 25 #[.slice A n cap] w fun e w' =>
      e = .returned (.tuple #[.pointer none, .iface 57 (.int .i64 (n : Int))]) ∧ w = w' := by
  rcases h with h | h
  · have h' : (n : Int) < 1 := by omega
    go_enter Try.func25, Try.ntmps25
    go_wp2
    go_ret2
    exact ⟨rfl, rfl⟩
  · have h1 : (1 : Int) ≤ (n : Int) := by omega
    have h' : (256 : Int) < (n : Int) := by omega
    go_enter Try.func25, Try.ntmps25
    go_wp2
    go_ret2
    exact ⟨rfl, rfl⟩

theorem cip_swap (S : List Nat) (hS : S.length = 256) (w : World) (g T k J : Nat) (hB : B w g T (cip ⟨S, 0, 0⟩)) (hk : k < 256) (hJ : J < 256) :
    B ((w.setCell ⟨g, k, none⟩ (.int .u32 (S.getD J 0 : Nat))).setCell ⟨g, J, none⟩ (.int .u32 (S.getD k 0 : Nat))).drew g T (cip ⟨swap S k J, 0, 0⟩) := by
  have h := ((hB.set_ k (.int .u32 (S.getD J 0 : Nat))).set_ J (.int .u32 (S.getD k 0 : Nat))).drew
  rw [cip_set ⟨S, 0, 0⟩ k _ (by rw [hS]; exact hk), cip_set _ J _ (by simp; omega)] at h
  exact h

set_option maxRecDepth 100000 in
set_option maxHeartbeats 1000000 in
theorem new_right (A : Option Addr) (n cap : Nat) (key : List Nat) (b : Nat) (w : World) (hk : Bytes w b A n key) (hb : b ≤ w.heap.size) (hn : 1 ≤ n) (hn2 : n ≤ 256) (hv : ∀ v ∈ key, v < 256) :
    Calls Try.prog 25 #[.slice A n cap] w fun e w' =>
      ∃ g, e = .returned (.tuple #[.pointer (some ⟨g, 0, none⟩), .nilIface]) ∧ w.heap.size ≤ g ∧ B w' g 59 (cip (keyed key)) ∧ Below w.heap.size w w' := by
  obtain ⟨ti, hti, hz, hsz⟩ := row59
  have hkl := hk.length
  have HKL := Lib.hid hkl
  clear hkl
  obtain ⟨ad, rfl, hadb, hkc0⟩ := hk.at_ (by omega)
  have HKC := Lib.hid hkc0
  clear hkc0 hk
  have hn1 : (1 : Int) ≤ (n : Int) := by omega
  have hn3 : (n : Int) ≤ 256 := by omega
  go_enter Try.func25, Try.ntmps25
  go_wp2_with (refine wpList_alloc rfl 59 rfl ti _ (cip C0) hti hz rfl ?_; intro g w1 hg hlt1 hB1 hb1; (try go_frame))
  clear hti hz hsz
  go_loopw [6] (fun i wr => ∃ k : Nat, k ≤ 256 ∧ i = .int .i64 (k : Int) ∧ B wr g 59 (cip ⟨fill k, 0, 0⟩) ∧ Below w.heap.size w wr) (fun i _ => 256 - (intOf i).toNat)
  case atStart => exact ⟨0, Nat.zero_le _, rfl, by rw [fill_zero]; exact hB1, hb1⟩
  case round =>
    clear hB1 hb1
    obtain ⟨k, hk, rfl, hB, hbel⟩ := hrel
    by_cases hlt : k < 256
    · have hlt' : (k : Int) < 256 := by omega
      go_wp2_with (refine wpList_store_one rfl 23 _ _ rfl g k rfl hB _ rfl (by rw [cip_length ⟨fill k, 0, 0⟩ (fill_length k)]; omega) rfl (by kernel_rfl) ?_; intro w4 hB4 hO4; (try go_frame))
      go_roundw
      case rel => exact ⟨k + 1, by omega, by go_num, by rw [← fill_succ, ← cip_set ⟨fill k, 0, 0⟩ k k (by rw [fill_length]; omega)]; exact hB4, hbel.trans (hO4.below _ hg)⟩
      case measure => simp [intOf]; omega
    · have hge : (256 : Int) ≤ (k : Int) := by omega
      have hfa : fill k = List.range 256 := by rw [show k = 256 by omega, fill_all]
      rw [hfa] at hB
      clear hfa
      go_wp2
      clear hlt hk hge
      obtain ⟨k0, rfl⟩ : ∃ k0 : Nat, k0 = k := ⟨_, rfl⟩
      obtain ⟨wo, rfl⟩ : ∃ wo : World, wo = wr := ⟨_, rfl⟩
      go_loopw [7, 8] (fun j i wr => ∃ k : Nat, k ≤ 256 ∧ i = .int .i64 (k : Int) ∧ j = .int .u8 ((ksa key k).2 : Nat) ∧ B wr g 59 (cip ⟨(ksa key k).1, 0, 0⟩) ∧ Below w.heap.size w wr) (fun _ i _ => 256 - (intOf i).toNat)
      case atStart => exact ⟨0, Nat.zero_le _, rfl, by rw [ksa_zero]; rfl, by rw [ksa_zero]; exact hB, hbel⟩
      case round =>
        obtain ⟨k, hk', rfl, rfl, hB', hbel'⟩ := hrel
        have hlen := ksa_len key k
        have hltS := ksa_lt key k
        have hj := ksa_j key k
        have hsu := ksa_succ key k
        have HSU := Lib.hid hsu
        clear hsu
        generalize hg : ksa key k = st at hlen hltS hj hB' HSU ⊢
        obtain ⟨S, j0⟩ := st
        simp only at hlen hltS hj hB' ⊢
        have HST := Lib.hid hg
        clear hg
        have HL := Lib.hid hlen
        clear hlen
        by_cases hlt : k < 256
        · have hlt' : (k : Int) < 256 := by omega
          have sc : wr.cell? ⟨g, k, none⟩ = some (.int .u32 (S.getD k 0 : Nat)) := (hB'.cell k).trans (cip_get ⟨S, 0, 0⟩ k (by show k < S.length; rw [HL.out]; exact hlt))
          have hm : k % n < n := Nat.mod_lt _ (by omega)
          have kc : wr.cell? (ad.add (k % n)) = some (.int .u8 (key.getD (k % n) 0 : Nat)) := (hbel'.cell (p := ad.add (k % n)) (by rw [block_of_add]; omega)).trans (HKC.out _ hm)
          have hx : S.getD k 0 < 256 := getD_lt hltS _
          have hy : key.getD (k % n) 0 < 256 := getD_lt hv _
          have hm' : (k : Int) % (n : Int) < (n : Int) := Int.emod_lt_of_pos _ (by omega)
          have hm0 : 0 ≤ (k : Int) % (n : Int) := Int.emod_nonneg _ (by omega)
          have hJe : ksaJ key S k j0 = (j0 + S.getD k 0 + key.getD (k % n) 0) % 256 := by unfold ksaJ; rw [HKL.out]
          have hJl := ksaJ_lt key S k j0
          have HJ := Lib.hid hJe
          clear hJe
          have hsc := hB'
          generalize hgx : S.getD k 0 = x at sc hx HJ
          generalize hgy : key.getD (k % n) 0 = y at kc hy HJ
          have HGX := Lib.hid hgx
          clear hgx hgy
          have hx' : (x : Int) < 256 := by omega
          have hy' : (y : Int) < 256 := by omega
          have hj' : (j0 : Int) < 256 := by omega
          go_wp2_with fail
          go_quiet (fail)
          have e : (((j0 : Int) + ((x : Int) + (y : Int)) % 256) % 256) = ((ksaJ key S k j0 : Nat) : Int) := by rw [HJ.out]; omega
          rw [e]
          have hBd := hB'.drewN nq
          have hbd := below_drewN hbel' nq
          have sc' : (wr.drewN nq).cell? ⟨g, k, none⟩ = some (.int .u32 (x : Int)) := sc
          clear e kc sc
          generalize wr.drewN nq = w4 at hBd hbd sc' ⊢
          generalize hgj : ksaJ key S k j0 = J at hJl HSU ⊢
          clear hgj HJ
          have c2 : w4.cell? ⟨g, J, none⟩ = some (.int .u32 (S.getD J 0 : Nat)) := (hBd.cell J).trans (cip_get ⟨S, 0, 0⟩ J (by show J < S.length; rw [HL.out]; exact hJl))
          have f1 := hBd.frozen k
          have f2 := hBd.frozen J
          have c3 : (w4.setCell ⟨g, k, none⟩ (.int .u32 (S.getD J 0 : Nat))).cell? ⟨g, J, none⟩ = some (.int .u32 ((S.set k (S.getD J 0)).getD J 0 : Nat)) := by
            have h := (hBd.set_ k (.int .u32 (S.getD J 0 : Nat))).cell J
            rw [cip_set ⟨S, 0, 0⟩ k _ (by show k < S.length; rw [HL.out]; exact hlt)] at h
            rw [h]
            exact cip_get ⟨S.set k (S.getD J 0), 0, 0⟩ J (by simp; rw [HL.out]; exact hJl)
          have hBs := cip_swap S HL.out w4 g _ k J hBd hlt hJl
          rw [HGX.out] at hBs
          have hO : Only g w4 ((w4.setCell ⟨g, k, none⟩ (.int .u32 (S.getD J 0 : Nat))).setCell ⟨g, J, none⟩ (.int .u32 (x : Int))).drew := ((Only.setCell g k _ w4).trans (Only.setCell g J _ _)).drewN 1
          generalize (S.set k (S.getD J 0)).getD J 0 = z3 at c3
          generalize S.getD J 0 = z at c2 c3 hBs hO
          have hJ' : (J : Int) < 256 := by omega
          go_wp2
          go_region
          generalize ((w4.setCell ⟨g, k, none⟩ (.int .u32 (z : Int))).setCell ⟨g, J, none⟩ (.int .u32 (x : Int))).drew = w5 at hBs hO ⊢
          clear c2 c3 sc' f1 f2
          go_wp2
          go_roundw
          case rel =>
            refine ⟨k + 1, by omega, by go_num, ?_, ?_, hbd.trans (hO.below _ hg)⟩
            · rw [HSU.out]
            · rw [HSU.out]; exact hBs
          case measure => simp [intOf]; omega
        · have hge : (256 : Int) ≤ (k : Int) := by omega
          go_wp2
          go_ret2
          refine ⟨g, rfl, by have := hbel'.size; exact hg, ?_, hbel'⟩
          have hk : k = 256 := by omega
          subst hk
          unfold keyed
          rw [HST.out]
          exact hB'
end Go.Proofs.Ytcmokpacocgolaa.Rc
