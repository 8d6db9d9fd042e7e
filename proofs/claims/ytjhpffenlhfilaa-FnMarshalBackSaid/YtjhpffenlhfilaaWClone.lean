/- The walk of slices.Clone. -/
import Derived.Test.YtjhpffenlhfilaaWDraw
import Derived.Test.YtjhpffenlhfilaaWMar
namespace Go.Proofs.Ytjhpffenlhfilaa.Ch
open Go.RowKit Mem

/-- A row of the call's own, not empty, is a block that is known whole. -/
theorem own_B {w : World} {base n : Nat} {t : TypeId} {v : Value} {xs : List Value} (h : w.ownsRow base t 1 v n xs) (hn : 0 < n) :
    ∃ g cap r, v = .slice (some ⟨g, 0, none⟩) n cap ∧ base ≤ g ∧ n ≤ cap ∧ B w g t (xs ++ r) := by
  have hl := h.1
  rcases h.2 with ⟨rfl, rfl⟩ | ⟨g, cap, cur, rfl, hg, hh, hnc, hcm, hsz, ht⟩
  · simp at hl; omega
  · refine ⟨g, cap, cur.toList.drop (n * 1), rfl, hg, hnc, ?_⟩
    show w.heap[g]? = _
    rw [← ht, List.take_append_drop, Array.toArray_toList]
    exact hh

set_option maxRecDepth 100000 in
set_option maxHeartbeats 1000000 in
theorem clone_any (ad : Addr) (n cap : Nat) (bs : List Y) (b : Nat) (w : World) (hr : Reads w b 1 (some ad) n (b8s bs)) (hb : b ≤ w.heap.size) (hn : n ≤ 2147483647) :
    Calls Try.prog 45 #[.slice (some ad) n cap] w fun e w' =>
      ∃ v, e = .returned v ∧ w'.ownsRow w.heap.size 5 1 v n (b8s bs) ∧ Below w.heap.size w w' := by
  obtain ⟨i0, hi0, hz0, hz1, hz2⟩ := info_parts info5
  have hq : ∀ w : World, (binOp .eql 38 (.slice (some ad) n cap) (.slice none 0 0)).run Try.prog w = .ok (.bool false) w := fun w => Lib.run_eql_slice_nil w _ _ (some ad) n cap 0 0 Try.underlying38
  go_enter Try.func45, Try.ntmps45
  have hown0 : (w.alloc (.cells #[] 5)).ownsRow w.heap.size 5 1 (.slice (some ⟨w.heap.size, 0, none⟩) 0 0) 0 [] := World.ownsRow_lit w #[] 0 (Nat.le_refl _) (by unfold maxLen; omega) rfl
  have hone := b8s_one bs
  have hrd : Reads (w.alloc (.cells #[] 5)) b 1 (some ad) n (b8s bs) := Reads.alloc hr hb _
  go_wp2_with (at_builtin; refine wpList_append_any _ rfl (.tmp 5) (.tmp 6) _ rfl w.heap.size 5 i0 _ 1 1 Try.underlying38 hi0 hz0 hz1 hz2 rfl (by omega) (.slice (some ⟨w.heap.size, 0, none⟩) 0 0) 0 [] rfl hown0 b (some ad) n cap (b8s bs) rfl hrd hone (by simp only [maxLen]; omega) (by omega) (by simp) ?_; intro v1 w1 hown1 hg1 hat1)
  go_ret
  rw [List.nil_append, Nat.zero_add] at hown1
  exact ⟨v1, rfl, hown1, ((Below.refl _ _).alloc (Nat.le_refl _) _).grown hg1 (by simp) (fun k hk => by simp [Value.ownBlock] at hk; omega)⟩
end Go.Proofs.Ytjhpffenlhfilaa.Ch
