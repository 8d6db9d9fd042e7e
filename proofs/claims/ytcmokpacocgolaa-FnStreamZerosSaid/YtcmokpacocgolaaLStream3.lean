/- The walks of further laws on streams: a key twice; zeros. -/
import Derived.Test.YtcmokpacocgolaaLStream2
namespace Go.Proofs.Ytcmokpacocgolaa
open Go.RowKit Mem Rc

set_option maxRecDepth 100000 in
set_option maxHeartbeats 2000000 in
theorem walk_FnKeyTwice (A0 : Option Addr) (len0 cap0 : Nat) (z0 : List Int) (A1 : Option Addr) (len1 cap1 : Nat) (z1 : List Int) (W : World) (c0 : Came .u8 W A0 len0 cap0 z0) (c1 : Came .u8 W A1 len1 cap1 z1) :
    Calls Try.prog 5 #[.slice A0 len0 cap0, .slice A1 len1 cap1] W fun e w' => e = .returned (.bool true) ∧ Below W.heap.size W w' := by
  have m0 := c0.len_le
  have m0' := c0.cap_le
  have m1 := c1.len_le
  have m1' := c1.cap_le
  unfold maxLen at m0' m1'
  obtain ⟨key, hk, hkv⟩ := came_bytes c0
  obtain ⟨vs, hs, hsv⟩ := came_bytes c1
  clear c0 c1
  by_cases h1 : 2147483647 < len0
  · have h1' : (2147483647 : Int) < (len0 : Int) := by omega
    go_enter Try.func5, Try.ntmps5
    go_wp2
    go_ret
    exact ⟨rfl, Below.refl _ _⟩
  have h1' : (len0 : Int) ≤ 2147483647 := by omega
  by_cases h2 : 2147483647 < len1
  · have h2' : (2147483647 : Int) < (len1 : Int) := by omega
    go_enter Try.func5, Try.ntmps5
    go_wp2
    go_ret
    exact ⟨rfl, Below.refl _ _⟩
  have h2' : (len1 : Int) ≤ 2147483647 := by omega
  by_cases h3 : 1048576 < len1
  · have h3' : (1048576 : Int) < (len1 : Int) := by omega
    go_enter Try.func5, Try.ntmps5
    go_wp2
    go_ret
    exact ⟨rfl, Below.refl _ _⟩
  have h3' : (len1 : Int) ≤ 1048576 := by omega
  by_cases h4 : len0 < 1
  · have h4' : (len0 : Int) < 1 := by omega
    go_enter Try.func5, Try.ntmps5
    go_wp2
    go_ret
    exact ⟨rfl, Below.refl _ _⟩
  have h4' : (1 : Int) ≤ (len0 : Int) := by omega
  by_cases h5 : 128 < len0
  · have h5' : (128 : Int) < (len0 : Int) := by omega
    go_enter Try.func5, Try.ntmps5
    go_wp2
    go_ret
    exact ⟨rfl, Below.refl _ _⟩
  have h5' : (len0 : Int) ≤ 128 := by omega
  obtain ⟨i0, hi0, hz0, hz1, hz2⟩ := info_parts info5
  have hone := u8s_one key
  have hkt : keyed (key ++ key) = keyed key := keyed_twice key
  have HKT := Lib.hid hkt
  clear hkt
  have hkkv : ∀ v ∈ key ++ key, v < 256 := fun v hv => by
    rcases List.mem_append.1 hv with h | h
    · exact hkv v h
    · exact hkv v h
  go_enter Try.func5, Try.ntmps5
  go_wp2_with fail
  refine (stream_right A0 len0 cap0 key A1 len1 cap1 vs _ _ hk hs (Nat.le_refl _) (by omega) (by omega) hkv hsv (by omega)).mono ?_
  rintro e w1 ⟨A2, rfl, ho1, hb1⟩
  have hk1 := hk.call hb1
  have s1 := hb1.size
  have hown0 : (w1.alloc (.cells #[] 5)).ownsRow w1.heap.size 5 1 (.slice (some ⟨w1.heap.size, 0, none⟩) 0 0) 0 [] := World.ownsRow_lit w1 #[] 0 (Nat.le_refl _) (by unfold maxLen; omega) rfl
  have hka : Reads (w1.alloc (.cells #[] 5)) W.heap.size 1 A0 len0 (u8s key) := Reads.alloc hk1 s1 _
  go_wp2_with (first
    | (at_builtin; refine wpList_append_any _ rfl (.tmp 37) (.tmp 38) _ rfl w1.heap.size 5 i0 _ 1 1 Try.underlying22 hi0 hz0 hz1 hz2 rfl (by omega) (.slice (some ⟨w1.heap.size, 0, none⟩) 0 0) 0 [] rfl hown0 W.heap.size A0 len0 cap0 (u8s key) rfl hka hone (by simp only [maxLen]; omega) (by omega) (by simp) ?_; intro v2 w2 hown2 hg2 hat2; have b2 := ((Below.refl w1.heap.size w1).alloc (Nat.le_refl _) (.cells #[] 5)).grown hg2 (by simp) (own_base hown0); have hk2 := hk1.call (b2.mono s1))
    | (at_builtin; refine wpList_append_any _ rfl (.tmp 39) (.tmp 40) _ rfl w1.heap.size 5 i0 _ 1 1 Try.underlying22 hi0 hz0 hz1 hz2 rfl (by omega) v2 (0 + len0) ([] ++ u8s key) rfl hown2 W.heap.size A0 len0 cap0 (u8s key) rfl hk2 hone (by simp only [maxLen]; omega) (by omega) b2.size ?_; intro v3 w3 hown3 hg3 hat3; have b3 := b2.grown hg3 b2.size (own_base hown2)))
  have e3 : ([] ++ u8s key) ++ u8s key = u8s (key ++ key) := by simp [u8s]
  rw [e3, Nat.zero_add] at hown3
  obtain ⟨A4, k4, hv3, hkk, _⟩ := bytes_of_own hown3
  rw [hv3]
  clear hv3 hown3 hg3 hat3 hown2 hg2 hat2 hown0 hka
  have hs3 := (hs.call hb1).call (b3.mono s1)
  have s3 := b3.size
  refine (stream_right A4 (len0 + len0) k4 (key ++ key) A1 len1 cap1 vs _ _ hkk (hs3.more (by omega)) (Nat.le_refl _) (by omega) (by omega) hkkv hsv (by omega)).mono ?_
  rintro e w5 ⟨A5, rfl, ho5, hb5⟩
  rw [HKT.out] at ho5
  have ho1' := (ho1.call b3).call (hb5.mono s3)
  go_wp2_with (go_at_call 16; refine (same_self _ _ _ _ _ _ _ _ _ ho1' ho5).mono ?_; rintro e w6 ⟨rfl, rfl⟩)
  go_ret
  exact ⟨rfl, below_call (below_call hb1 s1 b3) (by omega) hb5⟩

set_option maxRecDepth 100000 in
set_option maxHeartbeats 2000000 in
theorem walk_FnStreamZeros (A0 : Option Addr) (len0 cap0 : Nat) (z0 : List Int) (A1 : Option Addr) (len1 cap1 : Nat) (z1 : List Int) (W : World) (c0 : Came .u8 W A0 len0 cap0 z0) (c1 : Came .u8 W A1 len1 cap1 z1) :
    Calls Try.prog 8 #[.slice A0 len0 cap0, .slice A1 len1 cap1] W fun e w' => e = .returned (.bool true) ∧ Below W.heap.size W w' := by
  have m0 := c0.len_le
  have m0' := c0.cap_le
  have m1 := c1.len_le
  have m1' := c1.cap_le
  unfold maxLen at m0' m1'
  obtain ⟨key, hk, hkv⟩ := came_bytes c0
  obtain ⟨vs, hs, hsv⟩ := came_bytes c1
  clear c0 c1
  by_cases h1 : 2147483647 < len0
  · have h1' : (2147483647 : Int) < (len0 : Int) := by omega
    go_enter Try.func8, Try.ntmps8
    go_wp2
    go_ret
    exact ⟨rfl, Below.refl _ _⟩
  have h1' : (len0 : Int) ≤ 2147483647 := by omega
  by_cases h2 : 2147483647 < len1
  · have h2' : (2147483647 : Int) < (len1 : Int) := by omega
    go_enter Try.func8, Try.ntmps8
    go_wp2
    go_ret
    exact ⟨rfl, Below.refl _ _⟩
  have h2' : (len1 : Int) ≤ 2147483647 := by omega
  by_cases h3 : 1048576 < len1
  · have h3' : (1048576 : Int) < (len1 : Int) := by omega
    go_enter Try.func8, Try.ntmps8
    go_wp2
    go_ret
    exact ⟨rfl, Below.refl _ _⟩
  have h3' : (len1 : Int) ≤ 1048576 := by omega
  rcases key_cases len0 with hw | ⟨hw1, hw2⟩
  · go_enter Try.func8, Try.ntmps8
    go_wp2_with (go_at_call 14; refine (right_no A0 len0 cap0 _ hw (by omega)).mono ?_; rintro e w2 ⟨rfl, rfl⟩)
    go_ret
    exact ⟨rfl, Below.refl _ _⟩
  obtain ⟨i0, hi0, hz0, hz1, hz2⟩ := info_parts info5
  have hvl := hs.length
  have HVL := Lib.hid hvl
  clear hvl
  go_enter Try.func8, Try.ntmps8
  go_wp2_with (go_at_call 14; refine (right_yes A0 len0 cap0 _ hw1 hw2).mono ?_; rintro e w2 ⟨rfl, rfl⟩)
  refine (stream_right A0 len0 cap0 key A1 len1 cap1 vs _ _ hk hs (Nat.le_refl _) hw1 hw2 hkv hsv (by omega)).mono ?_
  rintro e w1 ⟨A2, rfl, ho1, hb1⟩
  have hk1 := hk.call hb1
  have s1 := hb1.size
  go_wp2_with (refine wpList_make_B rfl 22 5 _ _ rfl i0 (.int .u8 0) Try.underlying22 hi0 hz0 hz1 rfl .i64 .i64 len1 rfl rfl (by rw [hz2]; omega) (by omega) ?_; intro gd w3 hgd hlt3 hD hb3; (try go_frame))
  have e0 : List.replicate len1 (Value.int .u8 0) = u8s (List.replicate len1 0) ++ [] := by rw [List.append_nil]; unfold u8s; rw [List.map_replicate]; rfl
  rw [e0] at hD
  have hzb := bytes_of_B hD (List.length_replicate)
  have hzv : ∀ v ∈ List.replicate len1 0, v < 256 := fun v hv => by rw [List.eq_of_mem_replicate hv]; omega
  have s3 := hb3.size
  have hk3 := (hk1.call (hb3.mono s1)).more (show W.heap.size ≤ w3.heap.size by omega)
  refine (stream_right A0 len0 cap0 key (some ⟨gd, 0, none⟩) len1 len1 (List.replicate len1 0) _ _ hk3 hzb (Nat.le_refl _) hw1 hw2 hkv hzv (by omega)).mono ?_
  rintro e w4 ⟨A4, rfl, ho4, hb4⟩
  have B4 : Below W.heap.size W w4 := below_call (below_call hb1 s1 hb3) (by omega) hb4
  have ho1' := (ho1.call hb3).call (hb4.mono s3)
  have hs4 := hs.call B4
  have hne : ((len1 : Int) != (len1 : Int)) = false := by simp
  go_wp2_with fail
  clear hne
  go_loopw [9] (fun i wr => ∃ k : Nat, k ≤ len1 ∧ i = .int .i64 (k : Int) ∧ ∃ q, w4.drewN q = wr) (fun i _ => len1 - (intOf i).toNat)
  case atStart => exact ⟨0, Nat.zero_le _, rfl, 0, rfl⟩
  case round =>
    obtain ⟨k, hkm, rfl, q, rfl⟩ := hrel
    by_cases hlt : k < len1
    · have hlt' : (k : Int) < (len1 : Int) := by omega
      obtain ⟨ad1, rfl, _, hc1⟩ := hs4.at_ (by omega)
      obtain ⟨ad2, rfl, _, hc2⟩ := ho1'.at_ (by omega)
      obtain ⟨ad4, rfl, _, hc4⟩ := ho4.at_ (by omega)
      have f1 := hc1 k hlt
      have f2 := hc2 k hlt
      have f4 := hc4 k hlt
      have e2 := mix_getD (keyed key) vs k (by rw [HVL.out]; exact hlt)
      have e4 := mix_getD (keyed key) (List.replicate len1 0) k (by rw [List.length_replicate]; exact hlt)
      have e5 : (List.replicate len1 0).getD k 0 = 0 := by simp [List.getD, hlt]
      rw [e5, Nat.zero_xor] at e4
      rw [e2] at f2
      rw [e4] at f4
      have hol : outB (after (keyed key) (k + 1)) < 256 := outB_lt (after_ok (keyed_ok key) _)
      have hvl : vs.getD k 0 < 256 := getD_lt hsv _
      clear hc1 hc2 hc4 e2 e4 e5
      generalize outB (after (keyed key) (k + 1)) = o at f2 f4 hol
      generalize vs.getD k 0 = v at f1 f2 hvl
      have hbx := bxor8 v o hvl hol
      have hnn : (((v ^^^ o : Nat) : Int) != ((v ^^^ o : Nat) : Int)) = false := by simp
      go_wp2_with fail
      go_quiet (fail)
      go_wp2
      go_roundw
      case rel => exact ⟨k + 1, by omega, by go_num, _, rfl⟩
      case measure => simp [intOf]; omega
    · have hge : (len1 : Int) ≤ (k : Int) := by omega
      go_wp2
      go_ret
      exact ⟨rfl, below_drewN B4 _⟩
end Go.Proofs.Ytcmokpacocgolaa
