/- The walk of the law on the state of a key. -/
import Derived.Test.YtcmokpacocgolaaLStream
import Derived.Test.YtcmokpacocgolaaWState
import Derived.Test.YtcmokpacocgolaaWAfter
namespace Go.Proofs.Ytcmokpacocgolaa
open Go.RowKit Mem Rc

attribute [local go_sem ↓] loadRow_eq storeRow_eq

set_option maxRecDepth 100000 in
set_option maxHeartbeats 2000000 in
theorem walk_FnExactState (A0 : Option Addr) (len0 cap0 : Nat) (z0 : List Int) (a1 : Int) (_w1 : (Lit.int .i64 a1).wf = true) (W : World) (c0 : Came .u8 W A0 len0 cap0 z0) :
    Calls Try.prog 9 #[.slice A0 len0 cap0, .int .i64 a1] W fun e w' => e = .returned (.bool true) ∧ Below W.heap.size W w' := by
  have m0 := c0.len_le
  have m0' := c0.cap_le
  unfold maxLen at m0'
  obtain ⟨key, hk, hkv⟩ := came_bytes c0
  clear c0
  by_cases h1 : 2147483647 < len0
  · have h1' : (2147483647 : Int) < (len0 : Int) := by omega
    go_enter Try.func9, Try.ntmps9
    go_wp2
    go_ret
    exact ⟨rfl, Below.refl _ _⟩
  have h1' : (len0 : Int) ≤ 2147483647 := by omega
  by_cases h4 : a1 < 0
  · go_enter Try.func9, Try.ntmps9
    go_wp2
    go_ret
    exact ⟨rfl, Below.refl _ _⟩
  obtain ⟨q, rfl⟩ := Int.eq_ofNat_of_zero_le (Int.not_lt.1 h4)
  have h6' : (0 : Int) ≤ (q : Int) := by omega
  clear h4
  by_cases h5 : 5000 < q
  · have h5' : (5000 : Int) < (q : Int) := by omega
    go_enter Try.func9, Try.ntmps9
    go_wp2
    go_ret
    exact ⟨rfl, Below.refl _ _⟩
  have h5' : (q : Int) ≤ 5000 := by omega
  obtain ⟨ti, hti, hz, hsz⟩ := row24
  have h24 := Try.underlying24
  rcases key_cases len0 with hw | ⟨hw1, hw2⟩
  · have cw := fun w hk hb => state_wrong A0 len0 cap0 key q W.heap.size w hk hb hw (by omega)
    have hone := u32s_one zeros
    have hz24 := size24z
    generalize u32s zeros = Z at hz hone hz24 cw
    go_enter Try.func9, Try.ntmps9
    go_wp2_with (first
      | (go_at_call 18; refine (cw _ hk (Nat.le_refl _)).mono ?_; rintro e w1 ⟨rfl, hb1⟩)
      | (refine wpList_alloc rfl 24 rfl ti _ Z hti hz rfl ?_; intro g7 w7 hg7 hlt7 hB7 hb7; (try go_frame))
      | (refine wpList_store_all rfl 24 _ _ rfl g7 rfl hB7 Z rfl rfl hone hz24 ?_; intro w8 hB8 hO8; (try go_frame)))
    go_wp2_with (go_at_call 14; refine (right_no A0 len0 cap0 _ hw (by omega)).mono ?_; rintro e w3 ⟨rfl, rfl⟩)
    go_ret
    exact ⟨rfl, (below_call hb1 hb1.size hb7).trans (hO8.below _ (by have := hb1.size; omega))⟩
  · have hd := after_ok (keyed_ok key) q
    have cw := fun w hk hb => state_right A0 len0 cap0 key q (by omega) W.heap.size w hk hb hw1 hw2 hkv
    have ca := fun w hk hb => after_any A0 len0 cap0 key q (by omega) W.heap.size w hk hb hw1 hw2 hkv
    generalize after (keyed key) q = d at hd cw ca
    have hlen := hd.len
    have hi256 : (d.i : Int) < 256 := by have := hd.i; omega
    have hj256 : (d.j : Int) < 256 := by have := hd.j; omega
    obtain ⟨ti5, hti5, hz5, hsz5⟩ := row35
    have hone := u32s_one d.S
    have hspo := spc_one d
    have hL : (u32s d.S).length = (u32s zeros).length := by rw [u32s_length, u32s_length, hlen, zeros_length]
    have hLi : (Try.prog.info? 24).map (·.size) = some (u32s d.S).length := by rw [size24, u32s_length, hlen]
    have hspL : (spc d).length = (spc C0).length := by rw [spc_length _ hlen, spc_length C0 zeros_length]
    have hspi : (Try.prog.info? 35).map (·.size) = some (spc d).length := by rw [size35, spc_length _ hlen]
    have hpart := spc_part d
    have hgi := spc_getI d hlen
    have hgj := spc_getJ d hlen
    have eqd : ∀ w, (binOp .eql 24 (.agg (u32s d.S).toArray) (.agg (u32s d.S).toArray)).run Try.prog w = .ok (.bool true) w := fun w => by
      rw [eql24 d.S d.S hlen hlen w, beq_self_eq_true]
    have HL := Lib.hid hL
    have HLi := Lib.hid hLi
    have HspL := Lib.hid hspL
    have Hspi := Lib.hid hspi
    have Hpart := Lib.hid hpart
    have Hgi := Lib.hid hgi
    have Hgj := Lib.hid hgj
    clear hlen hL hLi hspL hspi hpart hgi hgj hd
    generalize u32s zeros = Z at hz HL
    generalize u32s d.S = L at hone HL HLi eqd cw Hpart
    generalize spc d = M at hspo HspL Hspi Hpart Hgi Hgj ca
    generalize spc C0 = Z5 at hz5 HspL
    generalize d.i = di at hi256 cw Hgi
    generalize d.j = dj at hj256 cw Hgj
    go_enter Try.func9, Try.ntmps9
    go_wp2_with (first
      | (go_at_call 18; refine (cw _ hk (Nat.le_refl _)).mono ?_; rintro e w1 ⟨rfl, hb1⟩)
      | (refine wpList_alloc rfl 24 rfl ti _ Z hti hz rfl ?_; intro g7 w7 hg7 hlt7 hB7 hb7; (try go_frame))
      | (refine wpList_store_all rfl 24 _ _ rfl g7 rfl hB7 L rfl HL.out hone HLi.out ?_; intro w8 hB8 hO8; (try go_frame)))
    go_wp2_with (go_at_call 14; refine (right_yes A0 len0 cap0 _ hw1 hw2).mono ?_; rintro e w3 ⟨rfl, rfl⟩)
    have B8 : Below W.heap.size W w8 := (below_call hb1 hb1.size hb7).trans (hO8.below _ (by have := hb1.size; omega))
    refine (ca _ (hk.call B8) B8.size).mono ?_
    rintro e w9 ⟨rfl, hb9⟩
    have hB9 := hB8.call hb9
    have B9 := below_call B8 B8.size hb9
    clear cw ca hB7 hb7 hO8 hb1
    go_wp2_with (first
      | (refine wpList_alloc rfl 35 rfl ti5 _ Z5 hti5 hz5 rfl ?_; intro gA wA hgA hltA hBA hbA; (try go_frame))
      | (refine wpList_store_all rfl 35 _ _ rfl gA rfl hBA M rfl HspL.out hspo Hspi.out ?_; intro wB hBB hOB; (try go_frame); have hA : B wB g7 24 L := ((hB9.call hbA).only hOB (by have := hB9.lt; omega)); have E1 : (loadRow (.pointer (some ⟨g7, 0, none⟩))).run Try.prog wB = .ok (.agg L.toArray) wB := (run_loadAt_mid wB g7 0 _ _ _ (hA.rangeAt 0 _ (by rw [List.drop_zero]; exact List.take_length)) h24 rfl HLi.out); have E2 : (loadRow (.pointer (some ⟨gA, 0, none⟩))).run Try.prog wB = .ok (.agg L.toArray) wB := (run_loadAt_mid wB gA 0 _ _ _ (hBB.rangeAt 0 _ Hpart.out) h24 rfl HLi.out); have k1 : wB.cell? ⟨gA, 256, none⟩ = some (.int .i64 (di : Int)) := ((hBB.cell 256).trans Hgi.out); have k2 : wB.cell? ⟨gA, 257, none⟩ = some (.int .i64 (dj : Int)) := ((hBB.cell 257).trans Hgj.out)))
    go_ret
    exact ⟨rfl, (below_call B9 B9.size hbA).trans (hOB.below _ (by have := B9.size; omega))⟩
end Go.Proofs.Ytcmokpacocgolaa
