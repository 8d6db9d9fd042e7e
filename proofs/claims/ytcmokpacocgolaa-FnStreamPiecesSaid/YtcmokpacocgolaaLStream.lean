/- The walks of the laws on streams. -/
import Derived.Test.YtcmokpacocgolaaOpen
import Derived.Test.YtcmokpacocgolaaWStream
import Derived.Test.YtcmokpacocgolaaWMixed
namespace Go.Proofs.Ytcmokpacocgolaa
open Go.RowKit Mem Rc

theorem came_bytes {w : World} {A : Option Addr} {len cap : Nat} {zs : List Int} (h : Came .u8 w A len cap zs) : ∃ vs, Bytes w w.heap.size A len vs ∧ ∀ v ∈ vs, v < 256 := by
  have hb : ∀ z ∈ zs, 0 ≤ z ∧ z ≤ 255 := fun z hz => by
    have := h.wf z hz
    simp [Lit.wf, IntKind.min, IntKind.max, IntKind.signed, IntKind.bits] at this
    omega
  refine ⟨zs.map Int.toNat, ?_, ?_⟩
  · have e : (zs.map Int.toNat).map (fun (v : Nat) => Value.int .u8 (v : Int)) = zs.map (Value.int .u8) := by
      rw [List.map_map]
      apply List.map_congr_left
      intro z hz
      have := hb z hz
      show Value.int .u8 ((z.toNat : Nat) : Int) = _
      rw [Int.toNat_of_nonneg this.1]
    show Reads w w.heap.size 1 A len _
    rw [e]
    exact h.reads
  · intro v hv
    obtain ⟨z, hz, rfl⟩ := List.mem_map.1 hv
    have := hb z hz
    omega

theorem key_cases (n : Nat) : (n < 1 ∨ 256 < n) ∨ (1 ≤ n ∧ n ≤ 256) := by omega

set_option maxRecDepth 100000 in
set_option maxHeartbeats 1000000 in
theorem walk_FnExactStream (A0 : Option Addr) (len0 cap0 : Nat) (z0 : List Int) (A1 : Option Addr) (len1 cap1 : Nat) (z1 : List Int) (W : World) (c0 : Came .u8 W A0 len0 cap0 z0) (c1 : Came .u8 W A1 len1 cap1 z1) :
    Calls Try.prog 4 #[.slice A0 len0 cap0, .slice A1 len1 cap1] W fun e w' => e = .returned (.bool true) ∧ Below W.heap.size W w' := by
  have m0 := c0.len_le
  have m0' := c0.cap_le
  have m1 := c1.len_le
  have m1' := c1.cap_le
  unfold maxLen at m0' m1'
  obtain ⟨key, hk, hkv⟩ := came_bytes c0
  obtain ⟨vs, hs, hsv⟩ := came_bytes c1
  clear c0 c1
  by_cases h1 : 2147483647 < len0
  · have h1' : (2147483647 : Int) < (len0 : Int) := by omega
    go_enter Try.func4, Try.ntmps4
    go_wp2
    go_ret
    exact ⟨rfl, Below.refl _ _⟩
  have h1' : (len0 : Int) ≤ 2147483647 := by omega
  by_cases h2 : 2147483647 < len1
  · have h2' : (2147483647 : Int) < (len1 : Int) := by omega
    go_enter Try.func4, Try.ntmps4
    go_wp2
    go_ret
    exact ⟨rfl, Below.refl _ _⟩
  have h2' : (len1 : Int) ≤ 2147483647 := by omega
  by_cases h3 : 1048576 < len1
  · have h3' : (1048576 : Int) < (len1 : Int) := by omega
    go_enter Try.func4, Try.ntmps4
    go_wp2
    go_ret
    exact ⟨rfl, Below.refl _ _⟩
  have h3' : (len1 : Int) ≤ 1048576 := by omega
  rcases key_cases len0 with hw | ⟨hw1, hw2⟩
  · go_enter Try.func4, Try.ntmps4
    go_wp2_with (first
      | (go_at_call 15; refine (stream_wrong A0 len0 cap0 key A1 len1 cap1 _ _ hk (Nat.le_refl _) hw (by omega)).mono ?_; rintro e w1 ⟨rfl, hb1⟩)
      | (go_at_call 14; refine (right_no A0 len0 cap0 _ hw (by omega)).mono ?_; rintro e w2 ⟨rfl, rfl⟩))
    go_ret
    exact ⟨rfl, hb1⟩
  · go_enter Try.func4, Try.ntmps4
    go_wp2_with (first
      | (go_at_call 15; refine (stream_right A0 len0 cap0 key A1 len1 cap1 vs _ _ hk hs (Nat.le_refl _) hw1 hw2 hkv hsv (by omega)).mono ?_; rintro e w1 ⟨A2, rfl, ho1, hb1⟩; have hk1 := hk.call hb1; have hs1 := hs.call hb1)
      | (go_at_call 14; refine (right_yes A0 len0 cap0 _ hw1 hw2).mono ?_; rintro e w2 ⟨rfl, rfl⟩)
      | (go_at_call 17; refine (mixed_any A0 len0 cap0 key A1 len1 cap1 vs _ _ hk1 hs1 hb1.size hw1 hw2 hkv hsv (by omega)).mono ?_; rintro e w3 ⟨A3, k3, rfl, ho3, hb3⟩; have ho2 := ho1.call hb3)
      | (go_at_call 16; refine (same_self _ _ _ _ _ _ _ _ _ ho2 ho3).mono ?_; rintro e w4 ⟨rfl, rfl⟩))
    go_ret
    exact ⟨rfl, below_call hb1 hb1.size hb3⟩
end Go.Proofs.Ytcmokpacocgolaa
