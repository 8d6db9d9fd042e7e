/- The walk of the law on Reset. -/
import Derived.Test.YtcmokpacocgolaaLStream
import Derived.Test.YtcmokpacocgolaaWCleared
namespace Go.Proofs.Ytcmokpacocgolaa
open Go.RowKit Mem Rc

attribute [local go_sem ↓] loadRow_eq storeRow_eq

set_option maxRecDepth 100000 in
set_option maxHeartbeats 1000000 in
theorem walk_FnCleared (A0 : Option Addr) (len0 cap0 : Nat) (z0 : List Int) (W : World) (c0 : Came .u8 W A0 len0 cap0 z0) :
    Calls Try.prog 3 #[.slice A0 len0 cap0] W fun e w' => e = .returned (.bool true) ∧ Below W.heap.size W w' := by
  have m0 := c0.len_le
  have m0' := c0.cap_le
  unfold maxLen at m0'
  obtain ⟨key, hk, hkv⟩ := came_bytes c0
  clear c0
  by_cases h1 : 2147483647 < len0
  · have h1' : (2147483647 : Int) < (len0 : Int) := by omega
    go_enter Try.func3, Try.ntmps3
    go_wp2
    go_ret
    exact ⟨rfl, Below.refl _ _⟩
  have h1' : (len0 : Int) ≤ 2147483647 := by omega
  obtain ⟨ti, hti, hz, hsz⟩ := row24
  have hone := u32s_one zeros
  have hz24 := size24z
  have h24 := Try.underlying24
  have bld : ∀ w, (zeroValue 24).run Try.prog w = .ok (.agg (u32s zeros).toArray) w := fun w => by simp [zeroValue, typeInfo, hti, hz]
  have eqz : ∀ w, (binOp .eql 24 (.agg (u32s zeros).toArray) (.agg (u32s zeros).toArray)).run Try.prog w = .ok (.bool true) w := fun w => by
    rw [eql24 zeros zeros zeros_length zeros_length w, beq_self_eq_true]
  rcases key_cases len0 with hw | ⟨hw1, hw2⟩
  · have cw := fun w hk hb => cleared_wrong A0 len0 cap0 key W.heap.size w hk hb hw (by omega)
    generalize u32s zeros = Z at hz hone hz24 bld eqz cw
    go_enter Try.func3, Try.ntmps3
    go_wp2_with (first
      | (go_at_call 13; refine (cw _ hk (Nat.le_refl _)).mono ?_; rintro e w1 ⟨rfl, hb1⟩)
      | (refine wpList_alloc rfl 24 rfl ti _ Z hti hz rfl ?_; intro g7 w7 hg7 hlt7 hB7 hb7; (try go_frame))
      | (refine wpList_store_all rfl 24 _ _ rfl g7 rfl hB7 Z rfl rfl hone hz24 ?_; intro w8 hB8 hO8; (try go_frame)))
    go_wp2_with (go_at_call 14; refine (right_no A0 len0 cap0 _ hw (by omega)).mono ?_; rintro e w3 ⟨rfl, rfl⟩)
    go_ret
    exact ⟨rfl, (below_call hb1 hb1.size hb7).trans (hO8.below _ (by have := hb1.size; omega))⟩
  · have cw := fun w hk hb => cleared_right A0 len0 cap0 key W.heap.size w hk hb hw1 hw2 hkv
    generalize u32s zeros = Z at hz hone hz24 bld eqz cw
    go_enter Try.func3, Try.ntmps3
    go_wp2_with (first
      | (go_at_call 13; refine (cw _ hk (Nat.le_refl _)).mono ?_; rintro e w1 ⟨rfl, hb1⟩)
      | (refine wpList_alloc rfl 24 rfl ti _ Z hti hz rfl ?_; intro g7 w7 hg7 hlt7 hB7 hb7; (try go_frame))
      | (refine wpList_store_all rfl 24 _ _ rfl g7 rfl hB7 Z rfl rfl hone hz24 ?_; intro w8 hB8 hO8; (try go_frame); have E1 : (loadRow (.pointer (some ⟨g7, 0, none⟩))).run Try.prog w8 = .ok (.agg Z.toArray) w8 := (run_loadAt_mid w8 g7 0 _ _ _ (hB8.rangeAt 0 _ (by rw [List.drop_zero]; exact List.take_length)) h24 rfl hz24)))
    go_wp2_with (go_at_call 14; refine (right_yes A0 len0 cap0 _ hw1 hw2).mono ?_; rintro e w3 ⟨rfl, rfl⟩)
    go_ret
    exact ⟨rfl, (below_call hb1 hb1.size hb7).trans (hO8.below _ (by have := hb1.size; omega))⟩
end Go.Proofs.Ytcmokpacocgolaa
