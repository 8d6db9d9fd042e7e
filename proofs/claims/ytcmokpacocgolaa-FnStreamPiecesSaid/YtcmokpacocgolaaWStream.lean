/- The walks of the thin package's Stream. -/
import Derived.Test.YtcmokpacocgolaaWNew
import Derived.Test.YtcmokpacocgolaaWXor
import Derived.Test.YtcmokpacocgolaaWClone
namespace Go.Proofs.Ytcmokpacocgolaa.Rc
open Go.RowKit Mem

set_option maxHeartbeats 400000 in
theorem stream_wrong (A : Option Addr) (n cap : Nat) (key : List Nat) (As : Option Addr) (m caps : Nat) (b : Nat) (w : World) (hk : Bytes w b A n key) (hb : b ≤ w.heap.size) (h : n < 1 ∨ 256 < n) (hn : n ≤ 2147483647) :
    Calls Try.prog 15 #[.slice A n cap, .slice As m caps] w fun e w' =>
      e = .returned (.tuple #[.slice none 0 0, .bool false]) ∧ Below w.heap.size w w' := by
  go_enter Try.func15, Try.ntmps15
  go_wp2_with (first
    | (go_at_call 26; refine (clone_any A n cap key b _ hk hb hn).mono ?_; rintro e w1 ⟨A1, c1, rfl, hk1, hf1, hb1⟩)
    | (go_at_call 25; refine (new_wrong A1 n c1 _ h (by omega)).mono ?_; rintro e w2 ⟨rfl, rfl⟩))
  go_ret2
  exact ⟨rfl, hb1⟩

set_option maxHeartbeats 400000 in
theorem stream_right (A : Option Addr) (n cap : Nat) (key : List Nat) (As : Option Addr) (m caps : Nat) (vs : List Nat) (b : Nat) (w : World) (hk : Bytes w b A n key) (hs : Bytes w b As m vs) (hb : b ≤ w.heap.size)
    (hn : 1 ≤ n) (hn2 : n ≤ 256) (hv : ∀ v ∈ key, v < 256) (hvs : ∀ v ∈ vs, v < 256) (hm : m ≤ 2147483647) :
    Calls Try.prog 15 #[.slice A n cap, .slice As m caps] w fun e w' =>
      ∃ A', e = .returned (.tuple #[.slice A' m m, .bool true]) ∧ Bytes w' w'.heap.size A' m (mix (keyed key) vs) ∧ Below w.heap.size w w' := by
  obtain ⟨i0, hi0, hz0, hz1, hz2⟩ := info_parts info5
  go_enter Try.func15, Try.ntmps15
  go_wp2_with fail
  refine (clone_any A n cap key b _ hk hb (by omega)).mono ?_
  rintro e w1 ⟨A1, c1, rfl, hk1, hf1, hb1⟩
  go_wp2_with fail
  refine (new_right A1 n c1 key _ _ hk1 (Nat.le_refl _) hn hn2 hv).mono ?_
  rintro e w2 ⟨gc, rfl, hgc, hC, hb2⟩
  go_wp2_with (refine wpList_make_B rfl 22 5 _ _ rfl i0 (.int .u8 0) Try.underlying22 hi0 hz0 hz1 rfl .i64 .i64 m rfl rfl (by rw [hz2]; omega) (by omega) ?_; intro gd w3 hgd hlt3 hD hb3; (try go_frame))
  have s1 := hb1.size
  have s2 := hb2.size
  have B3 : Below w.heap.size w w3 := below_call (below_call hb1 s1 hb2) (by omega) hb3
  have hs3 : Bytes w3 b As m vs := hs.call (B3.mono hb)
  refine (clone_any As m caps vs b _ hs3 (by have := B3.size; omega) hm).mono ?_
  rintro e w4 ⟨A4, c4, rfl, hs4, hf4, hb4⟩
  have hC4 := (hC.call hb3).call hb4
  have hD4 := hD.call hb4
  have hcl := hC.lt
  have B4 : Below w.heap.size w w4 := below_call B3 B3.size hb4
  by_cases h0 : m = 0
  · subst h0
    have hvn : vs = [] := List.eq_nil_of_length_eq_zero hs.length
    subst hvn
    go_wp2_with (go_at_call 29; refine (xor_none _ _ _ _ _ _ _).mono ?_; rintro e w5 ⟨rfl, rfl⟩)
    go_ret2
    exact ⟨_, rfl, ⟨rfl, fun h => absurd h (by omega)⟩, B4⟩
  · obtain ⟨ad, rfl, had, hcell⟩ := hs4.at_ (by omega)
    have hfa := hf4 ad rfl
    have hml := hs.length
    have HML := Lib.hid hml
    clear hml
    go_wp2_with (go_at_call 29; refine (xor_some (keyed key) (keyed_ok key) gc gd m m c4 ad vs _ _ (by omega) (Nat.le_refl _) hm HML.out hvs hC4 hD4 (by rw [List.length_replicate]; exact Nat.le_refl _) (by omega) (fun i _ hi => hcell i hi) (by omega) (.inl (by omega))).mono ?_; rintro e w5 ⟨rfl, hC5, hD5, hO5⟩)
    go_ret2
    refine ⟨_, rfl, bytes_of_B hD5 (by rw [mix_length, HML.out]), B4.trans (hO5.below _ (by omega) (by omega))⟩
end Go.Proofs.Ytcmokpacocgolaa.Rc
