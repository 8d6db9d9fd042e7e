/- The walk of the reference's After. -/
import Derived.Test.YtcmokpacocgolaaWByte
import Derived.Test.YtcmokpacocgolaaWKeyed
namespace Go.Proofs.Ytcmokpacocgolaa.Rc
open Go.RowKit Mem

set_option maxRecDepth 100000 in
set_option maxHeartbeats 1000000 in
theorem after_any (A : Option Addr) (n cap : Nat) (key : List Nat) (q : Nat) (hq : q ≤ 2147483647) (b : Nat) (w : World) (hk : Bytes w b A n key) (hb : b ≤ w.heap.size)
    (hn : 1 ≤ n) (hn2 : n ≤ 256) (hv : ∀ v ∈ key, v < 256) :
    Calls Try.prog 19 #[.slice A n cap, .int .i64 (q : Int)] w fun e w' =>
      e = .returned (.agg (spc (after (keyed key) q)).toArray) ∧ Below w.heap.size w w' := by
  obtain ⟨ti, hti, hz, hsz⟩ := row35
  have hkok := keyed_ok key
  have hq' : (q : Int) ≤ 2147483647 := by omega
  go_enter Try.func19, Try.ntmps19
  go_wp2_with (refine wpList_alloc rfl 35 rfl ti _ (spc C0) hti hz rfl ?_; intro g1 w1 hg1 hlt1 hB1 hb1; (try go_frame))
  refine (keyed_any A n cap key b w1 (hk.call (hb1.mono hb)) (by have := hb1.size; omega) hn hn2 hv).mono ?_
  rintro e w2 ⟨rfl, hb2⟩
  have hB2 := hB1.call hb2
  go_wp2_with (first
    | (refine wpList_alloc rfl 35 rfl ti _ (spc C0) hti hz rfl ?_; intro g w3 hg hlt3 hB3 hb3; (try go_frame))
    | (refine wpList_store_all rfl 35 _ _ rfl g rfl hB3 (spc (keyed key)) rfl (by rw [spc_length _ hkok.len, spc_length C0 zeros_length]) (spc_one _) (by rw [size35, spc_length _ hkok.len]) ?_; intro w4 hB4 hO4; (try go_frame)))
  have s1 := hb1.size
  have s2 := hb2.size
  have B3 : Below w.heap.size w w3 := below_call (below_call hb1 s1 hb2) (by omega) hb3
  have B4 : Below w.heap.size w w4 := B3.trans (hO4.below _ (by omega))
  have hne : g1 ≠ g := by have := hB2.lt; omega
  have hD4 : B w4 g1 35 (spc C0) := (hB2.call hb3).only hO4 hne
  clear hB1 hB2 hB3 hb1 hb2 hb3 hO4 B3 hti hz hsz hk
  go_loopw [6] (fun i wr => ∃ k : Nat, k ≤ q ∧ i = .int .i64 (k : Int) ∧ B wr g 35 (spc (after (keyed key) k)) ∧ B wr g1 35 (spc C0) ∧ Below w.heap.size w wr) (fun i _ => q - (intOf i).toNat)
  case atStart => exact ⟨0, Nat.zero_le _, rfl, hB4, hD4, B4⟩
  case round =>
    clear hB4 hD4 B4
    obtain ⟨k, hkm, rfl, hB, hD, hbel⟩ := hrel
    have hd := after_ok hkok k
    by_cases hlt : k < q
    · have hlt' : (k : Int) < (q : Int) := by omega
      have hnx : after (keyed key) (k + 1) = nxt (after (keyed key) k) := rfl
      have HNX := Lib.hid hnx
      clear hnx
      generalize hg : after (keyed key) k = d at hB hd HNX ⊢
      clear hg
      have sr := hbel.size
      go_wp2_with (first
        | (refine wpList_load_all rfl 35 _ rfl g rfl hB Try.underlying35 rfl (by rw [size35, spc_length _ hd.len]) ?_)
        | (go_at_call 31; refine (byte_any d hd _).mono ?_; rintro e w5 ⟨rfl, hb5⟩; have hB5 := hB.call hb5; have hD5 := hD.call hb5; have b5 := below_call hbel sr hb5)
        | (refine wpList_store_all rfl 35 _ _ rfl g rfl hB5 (spc (nxt d)) rfl (by rw [spc_length _ hd.len, spc_length _ (nxt_ok hd).len]) (spc_one _) (by rw [size35, spc_length _ (nxt_ok hd).len]) ?_; intro w6 hB6 hO6; (try go_frame); have hD6 := hD5.only hO6 hne; have b6 := b5.trans (hO6.below _ (by omega))))
      go_roundw
      case rel =>
        refine ⟨k + 1, by omega, by go_num, ?_, hD6, b6⟩
        rw [HNX.out]; exact hB6
      case measure => simp [intOf]; omega
    · have hge : (q : Int) ≤ (k : Int) := by omega
      have hkq : k = q := by omega
      have HK := Lib.hid hkq
      clear hkq
      have hlen := hd.len
      have HL := Lib.hid hlen
      clear hlen
      go_wp2_with (first
        | (refine wpList_load_all rfl 35 _ rfl g rfl hB Try.underlying35 rfl (by rw [size35, spc_length _ HL.out]) ?_)
        | (refine wpList_store_all rfl 35 _ _ rfl g1 rfl hD (spc (after (keyed key) k)) rfl (by rw [spc_length _ HL.out, spc_length C0 zeros_length]) (spc_one _) (by rw [size35, spc_length _ HL.out]) ?_; intro w6 hD6 hO6; (try go_frame)))
      refine bodyPost_ret (results_block rfl _ _ g1 35 _ _ rfl hD6 Try.underlying35 rfl (by rw [size35, spc_length _ HL.out])) rfl ⟨?_, ?_⟩
      · rw [HK.out]
      · exact hbel.trans (hO6.below _ hg1)
end Go.Proofs.Ytcmokpacocgolaa.Rc
