/- The walk of slices.Clone at []byte. -/
import Derived.Test.YtcmokpacocgolaaWNum
namespace Go.Proofs.Ytcmokpacocgolaa.Rc
open Go.RowKit Mem

theorem info5 : (Try.prog.info? 5).map (fun i => (i.zero, i.size, i.bytes)) = some (some (.int .u8 0), 1, 1) := by kernel_rfl

theorem bytes_of_own {w : World} {base n : Nat} {v : Value} {vs : List Nat} (h : w.ownsRow base 5 1 v n (u8s vs)) :
    ∃ A c, v = .slice A n c ∧ Bytes w w.heap.size A n vs ∧ ∀ ad, A = some ad → base ≤ ad.block := by
  have hl := h.1
  rcases h.2 with ⟨rfl, rfl⟩ | ⟨g, cap, cur, rfl, hg, hh, hnc, hcm, hsz, ht⟩
  · exact ⟨none, 0, rfl, ⟨hl, fun h0 => absurd h0 (by omega)⟩, fun ad h0 => by cases h0⟩
  · refine ⟨some ⟨g, 0, none⟩, cap, rfl, ⟨hl, fun _ => ⟨_, rfl, ?_, fun j u hu => ?_⟩⟩, fun ad h0 => by cases h0; exact hg⟩
    · rcases Nat.lt_or_ge g w.heap.size with hlt | hge
      · exact hlt
      · rw [Array.getElem?_eq_none hge] at hh; cases hh
    · have hj : j < (u8s vs).length := (List.getElem?_eq_some_iff.1 hu).1
      rw [Addr.add_mid, Nat.zero_add, cell_of_row w g j cur 5 (0, 0) hh]
      have h2 : (cur.toList.take (n * 1))[j]? = some u := by rw [ht]; exact hu
      rw [List.getElem?_take] at h2
      split at h2
      · simpa using h2
      · cases h2

theorem bytes_of_B {w : World} {g n : Nat} {vs : List Nat} {r : List Value} (h : B w g 5 (u8s vs ++ r)) (hn : vs.length = n) : Bytes w w.heap.size (some ⟨g, 0, none⟩) n vs := by
  refine ⟨by simp; exact hn, fun _ => ⟨_, rfl, h.lt, fun j u hu => ?_⟩⟩
  have hj : j < (u8s vs).length := (List.getElem?_eq_some_iff.1 hu).1
  rw [Addr.add_mid, Nat.zero_add, h.cell, List.getElem?_append_left hj]
  exact hu

set_option maxHeartbeats 400000 in
theorem clone_any (A : Option Addr) (n cap : Nat) (vs : List Nat) (b : Nat) (w : World) (hr : Bytes w b A n vs) (hb : b ≤ w.heap.size) (hn : n ≤ 2147483647) :
    Calls Try.prog 26 #[.slice A n cap] w fun e w' =>
      ∃ A' c', e = .returned (.slice A' n c') ∧ Bytes w' w'.heap.size A' n vs ∧ (∀ ad, A' = some ad → w.heap.size ≤ ad.block) ∧ Below w.heap.size w w' := by
  rcases A with _ | ad
  · have h0 : n = 0 := by
      rcases Nat.eq_zero_or_pos n with h | h
      · exact h
      · obtain ⟨ad, h, _⟩ := hr.2 h; cases h
    subst h0
    have hv : vs = [] := List.eq_nil_of_length_eq_zero hr.length
    subst hv
    have hq : ∀ w : World, (binOp .eql 22 (.slice none 0 cap) (.slice none 0 0)).run Try.prog w = .ok (.bool true) w := fun w => Lib.run_eql_slice_nil w _ _ none 0 cap 0 0 Try.underlying22
    go_enter Try.func26, Try.ntmps26
    go_wp2
    go_ret
    exact ⟨none, 0, rfl, ⟨rfl, fun h => absurd h (by omega)⟩, (fun ad h => (by cases h)), Below.refl _ _⟩
  · obtain ⟨i0, hi0, hz0, hz1, hz2⟩ := info_parts info5
    have hq : ∀ w : World, (binOp .eql 22 (.slice (some ad) n cap) (.slice none 0 0)).run Try.prog w = .ok (.bool false) w := fun w => Lib.run_eql_slice_nil w _ _ (some ad) n cap 0 0 Try.underlying22
    go_enter Try.func26, Try.ntmps26
    have hown0 : (w.alloc (.cells #[] 5)).ownsRow w.heap.size 5 1 (.slice (some ⟨w.heap.size, 0, none⟩) 0 0) 0 [] := World.ownsRow_lit w #[] 0 (Nat.le_refl _) (by unfold maxLen; omega) rfl
    have hone := u8s_one vs
    have hrd : Reads (w.alloc (.cells #[] 5)) b 1 (some ad) n (u8s vs) := Reads.alloc hr hb _
    go_wp2_with (at_builtin; go_loud (refine wpList_append_any _ rfl (.tmp 5) (.tmp 6) _ rfl w.heap.size 5 i0 _ 1 1 Try.underlying22 hi0 hz0 hz1 hz2 rfl (by omega) (.slice (some ⟨w.heap.size, 0, none⟩) 0 0) 0 [] rfl hown0 b (some ad) n cap (u8s vs) rfl hrd hone (by simp only [maxLen]; omega) (by omega) (by simp) ?_; intro v1 w1 hown1 hg1 hat1))
    go_ret
    rw [List.nil_append, Nat.zero_add] at hown1
    obtain ⟨A', c', rfl, hb', hbase⟩ := bytes_of_own hown1
    exact ⟨A', c', rfl, hb', hbase, ((Below.refl _ _).alloc (Nat.le_refl _) _).grown hg1 (by simp) (fun k hk => by simp [Value.ownBlock] at hk; omega)⟩
end Go.Proofs.Ytcmokpacocgolaa.Rc
