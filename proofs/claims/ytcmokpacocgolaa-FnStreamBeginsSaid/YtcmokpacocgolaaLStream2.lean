/- The walks of further laws on streams: mixed twice; the beginning; a key twice. -/
import Derived.Test.YtcmokpacocgolaaLStream
namespace Go.Proofs.Ytcmokpacocgolaa
open Go.RowKit Mem Rc

theorem take_bytes {w : World} {b : Nat} {A : Option Addr} {n : Nat} {vs : List Nat} (h : Bytes w b A n vs) (k : Nat) (hk : k ≤ n) : Bytes w b A k (vs.take k) := by
  have hl := h.length
  refine ⟨by simp; omega, fun h0 => ?_⟩
  obtain ⟨ad, rfl, hb, hc⟩ := h.2 (by omega)
  refine ⟨ad, rfl, hb, fun j u hu => hc j u ?_⟩
  rw [List.map_take] at hu
  rw [List.getElem?_take] at hu
  split at hu
  · exact hu
  · cases hu

set_option maxRecDepth 100000 in
set_option maxHeartbeats 1000000 in
theorem walk_FnStreamTwice (A0 : Option Addr) (len0 cap0 : Nat) (z0 : List Int) (A1 : Option Addr) (len1 cap1 : Nat) (z1 : List Int) (W : World) (c0 : Came .u8 W A0 len0 cap0 z0) (c1 : Came .u8 W A1 len1 cap1 z1) :
    Calls Try.prog 7 #[.slice A0 len0 cap0, .slice A1 len1 cap1] W fun e w' => e = .returned (.bool true) ∧ Below W.heap.size W w' := by
  have m0 := c0.len_le
  have m0' := c0.cap_le
  have m1 := c1.len_le
  have m1' := c1.cap_le
  unfold maxLen at m0' m1'
  obtain ⟨key, hk, hkv⟩ := came_bytes c0
  obtain ⟨vs, hs, hsv⟩ := came_bytes c1
  clear c0 c1
  by_cases h1 : 2147483647 < len0
  · have h1' : (2147483647 : Int) < (len0 : Int) := by omega
    go_enter Try.func7, Try.ntmps7
    go_wp2
    go_ret
    exact ⟨rfl, Below.refl _ _⟩
  have h1' : (len0 : Int) ≤ 2147483647 := by omega
  by_cases h2 : 2147483647 < len1
  · have h2' : (2147483647 : Int) < (len1 : Int) := by omega
    go_enter Try.func7, Try.ntmps7
    go_wp2
    go_ret
    exact ⟨rfl, Below.refl _ _⟩
  have h2' : (len1 : Int) ≤ 2147483647 := by omega
  by_cases h3 : 1048576 < len1
  · have h3' : (1048576 : Int) < (len1 : Int) := by omega
    go_enter Try.func7, Try.ntmps7
    go_wp2
    go_ret
    exact ⟨rfl, Below.refl _ _⟩
  have h3' : (len1 : Int) ≤ 1048576 := by omega
  rcases key_cases len0 with hw | ⟨hw1, hw2⟩
  · go_enter Try.func7, Try.ntmps7
    go_wp2_with (go_at_call 14; refine (right_no A0 len0 cap0 _ hw (by omega)).mono ?_; rintro e w2 ⟨rfl, rfl⟩)
    go_ret
    exact ⟨rfl, Below.refl _ _⟩
  · have hmv : ∀ v ∈ mix (keyed key) vs, v < 256 := mix_lt (keyed_ok key) hsv
    have hmm : mix (keyed key) (mix (keyed key) vs) = vs := mix_mix _ _
    have HMM := Lib.hid hmm
    clear hmm
    go_enter Try.func7, Try.ntmps7
    go_wp2_with (go_at_call 14; refine (right_yes A0 len0 cap0 _ hw1 hw2).mono ?_; rintro e w2 ⟨rfl, rfl⟩)
    refine (stream_right A0 len0 cap0 key A1 len1 cap1 vs _ _ hk hs (Nat.le_refl _) hw1 hw2 hkv hsv (by omega)).mono ?_
    rintro e w1 ⟨A2, rfl, ho1, hb1⟩
    have hk1 := (hk.call hb1).more hb1.size
    go_wp2_with fail
    refine (stream_right A0 len0 cap0 key A2 len1 len1 (mix (keyed key) vs) _ _ hk1 ho1 (Nat.le_refl _) hw1 hw2 hkv hmv (by omega)).mono ?_
    rintro e w3 ⟨A3, rfl, ho3, hb3⟩
    rw [HMM.out] at ho3
    have hs3 := (hs.call hb1).call (hb3.mono hb1.size)
    go_wp2_with (go_at_call 16; refine (same_self _ _ _ _ _ _ _ _ _ ho3 hs3).mono ?_; rintro e w4 ⟨rfl, rfl⟩)
    go_ret
    exact ⟨rfl, below_call hb1 hb1.size hb3⟩

set_option maxRecDepth 100000 in
set_option maxHeartbeats 2000000 in
theorem walk_FnStreamBegins (A0 : Option Addr) (len0 cap0 : Nat) (z0 : List Int) (A1 : Option Addr) (len1 cap1 : Nat) (z1 : List Int) (a2 : Int) (_w2 : (Lit.int .i64 a2).wf = true) (W : World) (c0 : Came .u8 W A0 len0 cap0 z0) (c1 : Came .u8 W A1 len1 cap1 z1) :
    Calls Try.prog 6 #[.slice A0 len0 cap0, .slice A1 len1 cap1, .int .i64 a2] W fun e w' => e = .returned (.bool true) ∧ Below W.heap.size W w' := by
  have m0 := c0.len_le
  have m0' := c0.cap_le
  have m1 := c1.len_le
  have m1' := c1.cap_le
  unfold maxLen at m0' m1'
  obtain ⟨key, hk, hkv⟩ := came_bytes c0
  obtain ⟨vs, hs, hsv⟩ := came_bytes c1
  clear c0 c1
  by_cases h1 : 2147483647 < len0
  · have h1' : (2147483647 : Int) < (len0 : Int) := by omega
    go_enter Try.func6, Try.ntmps6
    go_wp2
    go_ret
    exact ⟨rfl, Below.refl _ _⟩
  have h1' : (len0 : Int) ≤ 2147483647 := by omega
  by_cases h2 : 2147483647 < len1
  · have h2' : (2147483647 : Int) < (len1 : Int) := by omega
    go_enter Try.func6, Try.ntmps6
    go_wp2
    go_ret
    exact ⟨rfl, Below.refl _ _⟩
  have h2' : (len1 : Int) ≤ 2147483647 := by omega
  by_cases h3 : 1048576 < len1
  · have h3' : (1048576 : Int) < (len1 : Int) := by omega
    go_enter Try.func6, Try.ntmps6
    go_wp2
    go_ret
    exact ⟨rfl, Below.refl _ _⟩
  have h3' : (len1 : Int) ≤ 1048576 := by omega
  rcases key_cases len0 with hw | ⟨hw1, hw2⟩
  · go_enter Try.func6, Try.ntmps6
    go_wp2_with (go_at_call 14; refine (right_no A0 len0 cap0 _ hw (by omega)).mono ?_; rintro e w2 ⟨rfl, rfl⟩)
    go_ret
    exact ⟨rfl, Below.refl _ _⟩
  by_cases h4 : a2 < 0
  · go_enter Try.func6, Try.ntmps6
    go_wp2_with (go_at_call 14; refine (right_yes A0 len0 cap0 _ hw1 hw2).mono ?_; rintro e w2 ⟨rfl, rfl⟩)
    go_ret
    exact ⟨rfl, Below.refl _ _⟩
  obtain ⟨n, rfl⟩ := Int.eq_ofNat_of_zero_le (Int.not_lt.1 h4)
  by_cases h5 : len1 < n
  · have h5' : (len1 : Int) < (n : Int) := by omega
    have h6' : (0 : Int) ≤ (n : Int) := by omega
    clear h4
    go_enter Try.func6, Try.ntmps6
    go_wp2_with (go_at_call 14; refine (right_yes A0 len0 cap0 _ hw1 hw2).mono ?_; rintro e w2 ⟨rfl, rfl⟩)
    go_ret
    exact ⟨rfl, Below.refl _ _⟩
  · have h5' : (n : Int) ≤ (len1 : Int) := by omega
    have h6' : (0 : Int) ≤ (n : Int) := by omega
    have h7' : (n : Int) ≤ (cap1 : Int) := by omega
    have h8' : (len1 : Int) ≤ (cap1 : Int) := by omega
    clear h4
    have hst := take_bytes hs n (by omega)
    have hstv : ∀ v ∈ vs.take n, v < 256 := fun v hv => hsv v (List.mem_of_mem_take hv)
    have hmt : (mix (keyed key) vs).take n = mix (keyed key) (vs.take n) := mix_take _ _ _
    have HMT := Lib.hid hmt
    clear hmt
    go_enter Try.func6, Try.ntmps6
    go_wp2_with (go_at_call 14; refine (right_yes A0 len0 cap0 _ hw1 hw2).mono ?_; rintro e w2 ⟨rfl, rfl⟩)
    refine (stream_right A0 len0 cap0 key A1 len1 cap1 vs _ _ hk hs (Nat.le_refl _) hw1 hw2 hkv hsv (by omega)).mono ?_
    rintro e w1 ⟨A2, rfl, ho1, hb1⟩
    have hk1 := hk.call hb1
    have hs1 := hst.call hb1
    go_wp2_with fail
    refine (stream_right A0 len0 cap0 key A1 n cap1 (vs.take n) _ _ hk1 hs1 hb1.size hw1 hw2 hkv hstv (by omega)).mono ?_
    rintro e w3 ⟨A3, rfl, ho3, hb3⟩
    have ho2 := take_bytes (ho1.call hb3) n (by omega)
    rw [HMT.out] at ho2
    go_wp2_with (go_at_call 16; refine (same_self _ _ _ _ _ _ _ _ _ ho2 ho3).mono ?_; rintro e w4 ⟨rfl, rfl⟩)
    go_ret
    exact ⟨rfl, below_call hb1 hb1.size hb3⟩
end Go.Proofs.Ytcmokpacocgolaa
