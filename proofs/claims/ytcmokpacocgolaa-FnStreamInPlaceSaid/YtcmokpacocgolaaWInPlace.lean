/- The walk of the thin package's InPlace. -/
import Derived.Test.YtcmokpacocgolaaWNew
import Derived.Test.YtcmokpacocgolaaWXor
import Derived.Test.YtcmokpacocgolaaWClone
namespace Go.Proofs.Ytcmokpacocgolaa.Rc
open Go.RowKit Mem

/-- A row of the call's own, not empty, is a block that is known whole. -/
theorem own_B {w : World} {base n : Nat} {t : TypeId} {v : Value} {xs : List Value} (h : w.ownsRow base t 1 v n xs) (hn : 0 < n) :
    ∃ g cap r, v = .slice (some ⟨g, 0, none⟩) n cap ∧ base ≤ g ∧ n ≤ cap ∧ B w g t (xs ++ r) := by
  have hl := h.1
  rcases h.2 with ⟨rfl, rfl⟩ | ⟨g, cap, cur, rfl, hg, hh, hnc, hcm, hsz, ht⟩
  · simp at hl; omega
  · refine ⟨g, cap, cur.toList.drop (n * 1), rfl, hg, hnc, ?_⟩
    show w.heap[g]? = _
    rw [← ht, List.take_append_drop, Array.toArray_toList]
    exact hh

set_option maxHeartbeats 400000 in
theorem place_wrong (A : Option Addr) (n cap : Nat) (key : List Nat) (As : Option Addr) (m caps : Nat) (b : Nat) (w : World) (hk : Bytes w b A n key) (hb : b ≤ w.heap.size) (h : n < 1 ∨ 256 < n) (hn : n ≤ 2147483647) :
    Calls Try.prog 20 #[.slice A n cap, .slice As m caps] w fun e w' =>
      e = .returned (.tuple #[.slice none 0 0, .bool false]) ∧ Below w.heap.size w w' := by
  go_enter Try.func20, Try.ntmps20
  go_wp2_with (first
    | (go_at_call 26; refine (clone_any A n cap key b _ hk hb hn).mono ?_; rintro e w1 ⟨A1, c1, rfl, hk1, hf1, hb1⟩)
    | (go_at_call 25; refine (new_wrong A1 n c1 _ h (by omega)).mono ?_; rintro e w2 ⟨rfl, rfl⟩))
  go_ret2
  exact ⟨rfl, hb1⟩

set_option maxHeartbeats 400000 in
theorem place_right (A : Option Addr) (n cap : Nat) (key : List Nat) (As : Option Addr) (m caps : Nat) (vs : List Nat) (b : Nat) (w : World) (hk : Bytes w b A n key) (hs : Bytes w b As m vs) (hb : b ≤ w.heap.size)
    (hn : 1 ≤ n) (hn2 : n ≤ 256) (hv : ∀ v ∈ key, v < 256) (hvs : ∀ v ∈ vs, v < 256) (hm : m ≤ 2147483647) :
    Calls Try.prog 20 #[.slice A n cap, .slice As m caps] w fun e w' =>
      ∃ A' c', e = .returned (.tuple #[.slice A' m c', .bool true]) ∧ Bytes w' w'.heap.size A' m (mix (keyed key) vs) ∧ Below w.heap.size w w' := by
  obtain ⟨i0, hi0, hz0, hz1, hz2⟩ := info_parts info5
  have hone := u8s_one vs
  go_enter Try.func20, Try.ntmps20
  go_wp2_with fail
  refine (clone_any A n cap key b _ hk hb (by omega)).mono ?_
  rintro e w1 ⟨A1, c1, rfl, hk1, hf1, hb1⟩
  go_wp2_with fail
  refine (new_right A1 n c1 key _ _ hk1 (Nat.le_refl _) hn hn2 hv).mono ?_
  rintro e w2 ⟨gc, rfl, hgc, hC, hb2⟩
  have s1 := hb1.size
  have s2 := hb2.size
  have B2 : Below w.heap.size w w2 := below_call hb1 s1 hb2
  have hown0 : (w2.alloc (.cells #[] 5)).ownsRow w2.heap.size 5 1 (.slice (some ⟨w2.heap.size, 0, none⟩) 0 0) 0 [] := World.ownsRow_lit w2 #[] 0 (Nat.le_refl _) (by unfold maxLen; omega) rfl
  have hs2 : Reads (w2.alloc (.cells #[] 5)) b 1 As m (u8s vs) := Reads.alloc (hs.call (B2.mono hb)) (by omega) _
  have hC2 := hC.alloc (.cells #[] 5)
  have B2' := B2.alloc (by omega) (.cells #[] 5)
  go_wp2_with (at_builtin; go_loud (refine wpList_append_any _ rfl (.tmp 17) (.tmp 18) _ rfl w2.heap.size 5 i0 _ 1 1 Try.underlying22 hi0 hz0 hz1 hz2 rfl (by omega) (.slice (some ⟨w2.heap.size, 0, none⟩) 0 0) 0 [] rfl hown0 b As m caps (u8s vs) rfl hs2 hone (by simp only [maxLen]; omega) (by omega) (by simp) ?_; intro v1 w3 hown3 hg3 hat3))
  rw [List.nil_append, Nat.zero_add] at hown3
  have hgl := hC.lt
  have hC3 := hC2.grown hg3 (own_ne hown0 hC2 (by decide))
  have B3 : Below w.heap.size w w3 := B2'.grown hg3 (by simp; omega) (fun k hk => by simp [Value.ownBlock] at hk; omega)
  by_cases h0 : m = 0
  · subst h0
    have hvn : vs = [] := List.eq_nil_of_length_eq_zero hs.length
    subst hvn
    obtain ⟨A', c', rfl, h4, _⟩ := bytes_of_own hown3
    go_wp2_with (go_at_call 29; refine (xor_none _ _ _ _ _ _ _).mono ?_; rintro e w5 ⟨rfl, rfl⟩)
    go_ret2
    exact ⟨_, _, rfl, h4, B3⟩
  · obtain ⟨gd, c', r, rfl, hgd, hnc, hD⟩ := own_B hown3 (by omega)
    have hml := hs.length
    have HML := Lib.hid hml
    have hsrc : Src w3 ⟨gd, 0, none⟩ m vs 0 := fun i _ hi => by
      rw [Addr.add_mid, Nat.zero_add, hD.cell, List.getElem?_append_left (by rw [u8s_length]; omega)]
      simp [u8s, List.getElem?_map, List.getElem?_eq_getElem (show i < vs.length by omega)]
    clear hml
    go_wp2_with (go_at_call 29; refine (xor_some (keyed key) (keyed_ok key) gc gd m c' c' ⟨gd, 0, none⟩ vs _ _ (by omega) hnc hm HML.out hvs hC3 hD (by rw [List.length_append, u8s_length, HML.out]; omega) (by omega) hsrc (by show gd ≠ gc; omega) (.inr rfl)).mono ?_; rintro e w5 ⟨rfl, hC5, hD5, hO5⟩)
    go_ret2
    exact ⟨_, _, rfl, bytes_of_B hD5 (by rw [mix_length, HML.out]), B3.trans (hO5.below _ (by omega) (by omega))⟩
end Go.Proofs.Ytcmokpacocgolaa.Rc
