/- The walk of the law that the state of a key is a permutation. -/
import Derived.Test.YtcmokpacocgolaaLState
namespace Go.Proofs.Ytcmokpacocgolaa
open Go.RowKit Mem Rc

/-- Which bytes are among the first k of a row. -/
def seenL (S : List Nat) (k : Nat) : List Value := (List.range 256).map fun v => .bool (decide (v ∈ S.take k))
theorem seenL_length (S : List Nat) (k : Nat) : (seenL S k).length = 256 := by simp [seenL]
theorem seenL_one (S : List Nat) (k : Nat) : ∀ v ∈ seenL S k, v.oneCell' = true := by
  intro v hv
  obtain ⟨n, _, rfl⟩ := List.mem_map.1 hv
  rfl
theorem seenL_get (S : List Nat) (k v : Nat) (h : v < 256) : (seenL S k)[v]? = some (.bool (decide (v ∈ S.take k))) := by
  unfold seenL
  rw [List.getElem?_map, List.getElem?_range h]
  rfl
theorem seenL_out (S : List Nat) (k v : Nat) (h : ¬ v < 256) : (seenL S k)[v]? = none := List.getElem?_eq_none (by rw [seenL_length]; omega)
theorem seenL_zero (S : List Nat) : seenL S 0 = List.replicate 256 (.bool false) := by
  apply List.ext_getElem?
  intro i
  by_cases h : i < 256
  · rw [seenL_get S 0 i h, List.getElem?_replicate, if_pos h, List.take_zero]; rfl
  · rw [seenL_out S 0 i h, List.getElem?_replicate, if_neg h]
theorem seenL_new (S : List Nat) (hn : S.Nodup) (k : Nat) (hk : k < S.length) (hx : S.getD k 0 < 256) : (seenL S k)[S.getD k 0]? = some (.bool false) := by
  rw [seenL_get S k _ hx]
  have e : S.getD k 0 = S[k] := by simp [List.getD, hk]
  rw [e]
  have h : S[k] ∉ S.take k := by
    intro hm
    obtain ⟨i, hi, he⟩ := List.mem_iff_getElem.1 hm
    rw [List.getElem_take] at he
    have hi' : i < k := by rw [List.length_take] at hi; omega
    have := List.pairwise_iff_getElem.1 hn i k (by omega) hk hi'
    exact this he
  rw [decide_eq_false h]
theorem seenL_step (S : List Nat) (k : Nat) (hk : k < S.length) : (seenL S k).set (S.getD k 0) (.bool true) = seenL S (k + 1) := by
  have e : S.getD k 0 = S[k] := by simp [List.getD, hk]
  rw [e]
  apply List.ext_getElem?
  intro i
  rw [List.getElem?_set, seenL_length]
  have hm : i ∈ S.take (k + 1) ↔ i ∈ S.take k ∨ i = S[k] := by
    rw [List.take_succ_eq_append_getElem hk, List.mem_append, List.mem_singleton]
  by_cases h : i < 256
  · rw [seenL_get S k i h, seenL_get S (k + 1) i h]
    by_cases hi : S[k] = i
    · rw [if_pos hi, if_pos (by omega), decide_eq_true (hm.2 (.inr hi.symm))]
    · rw [if_neg hi]
      congr 3
      rw [eq_iff_iff, hm]
      exact ⟨.inl, fun h => h.resolve_right fun h => hi h.symm⟩
  · rw [seenL_out S k i h, seenL_out S (k + 1) i h]
    by_cases hi : S[k] = i
    · rw [if_pos hi, if_neg (by omega)]
    · rw [if_neg hi]

theorem zero38 : (Try.prog.info? 38).map (fun i => (i.zero, i.size)) = some (some (.agg (List.replicate 256 (Value.bool false)).toArray), 256) := by kernel_rfl
theorem size38 : (Try.prog.info? 38).map (·.size) = some 256 := size_of zero38

theorem keyed_perm (key : List Nat) : (keyed key).S.Perm (List.range 256) := ksa_perm key 256 (Nat.le_refl _)

set_option maxRecDepth 100000 in
set_option maxHeartbeats 2000000 in
theorem walk_FnStateWhole (A0 : Option Addr) (len0 cap0 : Nat) (z0 : List Int) (a1 : Int) (_w1 : (Lit.int .i64 a1).wf = true) (W : World) (c0 : Came .u8 W A0 len0 cap0 z0) :
    Calls Try.prog 10 #[.slice A0 len0 cap0, .int .i64 a1] W fun e w' => e = .returned (.bool true) ∧ Below W.heap.size W w' := by
  have m0 := c0.len_le
  have m0' := c0.cap_le
  unfold maxLen at m0'
  obtain ⟨key, hk, hkv⟩ := came_bytes c0
  clear c0
  by_cases h1 : 2147483647 < len0
  · have h1' : (2147483647 : Int) < (len0 : Int) := by omega
    go_enter Try.func10, Try.ntmps10
    go_wp2
    go_ret
    exact ⟨rfl, Below.refl _ _⟩
  have h1' : (len0 : Int) ≤ 2147483647 := by omega
  rcases key_cases len0 with hw | ⟨hw1, hw2⟩
  · go_enter Try.func10, Try.ntmps10
    go_wp2_with (go_at_call 14; refine (right_no A0 len0 cap0 _ hw (by omega)).mono ?_; rintro e w2 ⟨rfl, rfl⟩)
    go_ret
    exact ⟨rfl, Below.refl _ _⟩
  by_cases h4 : a1 < 0
  · go_enter Try.func10, Try.ntmps10
    go_wp2_with (go_at_call 14; refine (right_yes A0 len0 cap0 _ hw1 hw2).mono ?_; rintro e w2 ⟨rfl, rfl⟩)
    go_ret
    exact ⟨rfl, Below.refl _ _⟩
  obtain ⟨q, rfl⟩ := Int.eq_ofNat_of_zero_le (Int.not_lt.1 h4)
  have h6' : (0 : Int) ≤ (q : Int) := by omega
  clear h4
  by_cases h5 : 5000 < q
  · have h5' : (5000 : Int) < (q : Int) := by omega
    go_enter Try.func10, Try.ntmps10
    go_wp2_with (go_at_call 14; refine (right_yes A0 len0 cap0 _ hw1 hw2).mono ?_; rintro e w2 ⟨rfl, rfl⟩)
    go_ret
    exact ⟨rfl, Below.refl _ _⟩
  have h5' : (q : Int) ≤ 5000 := by omega
  obtain ⟨ti, hti, hz, hsz⟩ := row24
  obtain ⟨ti8, hti8, hz8, hsz8⟩ := row_of zero38
  have h24 := Try.underlying24
  have hd := after_ok (keyed_ok key) q
  have hperm := after_perm (keyed_ok key) (keyed_perm key) q
  have hdi := after_i key q
  have cw := fun w hk hb => state_right A0 len0 cap0 key q (by omega) W.heap.size w hk hb hw1 hw2 hkv
  generalize after (keyed key) q = d at hd cw hperm hdi
  have hnd : d.S.Nodup := hperm.nodup_iff.2 List.nodup_range
  have hlen := hd.len
  have hj256 : (d.j : Int) < 256 := by have := hd.j; omega
  have hone := u32s_one d.S
  have hL : (u32s d.S).length = (u32s zeros).length := by rw [u32s_length, u32s_length, hlen, zeros_length]
  have hLi : (Try.prog.info? 24).map (·.size) = some (u32s d.S).length := by rw [size24, u32s_length, hlen]
  have HL := Lib.hid hL
  have HLi := Lib.hid hLi
  have HLEN := Lib.hid hlen
  have hi8 : (Try.prog.info? 38).map (·.size) = some (seenL d.S 0).length := by rw [size38, seenL_length]
  have Hi8 := Lib.hid hi8
  rw [hdi] at cw
  rw [← seenL_zero d.S] at hz8
  have hone8 := seenL_one d.S 0
  have bld : ∀ w, (Instr.build 38 #[]).run Try.prog w = .ok (.agg (seenL d.S 0).toArray) w := fun w => by
    rw [seenL_zero]; kernel_rfl
  have hlt : ∀ k, d.S.getD k 0 < 256 := fun k => getD_lt hd.lt k
  clear hlen hL hLi hperm hdi hi8 hd
  generalize u32s zeros = Z at hz HL
  go_enter Try.func10, Try.ntmps10
  go_wp2_with (first
    | (go_at_call 14; refine (right_yes A0 len0 cap0 _ hw1 hw2).mono ?_; rintro e w3 ⟨rfl, rfl⟩)
    | (go_at_call 18; refine (cw _ hk (Nat.le_refl _)).mono ?_; rintro e w1 ⟨rfl, hb1⟩)
    | (refine wpList_alloc rfl 24 rfl ti _ Z hti hz rfl ?_; intro g7 w7 hg7 hlt7 hB7 hb7; (try go_frame))
    | (refine wpList_store_all rfl 24 _ _ rfl g7 rfl hB7 (u32s d.S) rfl HL.out hone HLi.out ?_; intro w8 hB8 hO8; (try go_frame))
    | (refine wpList_build0 rfl 38 rfl _ bld ?_; (try go_frame))
    | (refine wpList_alloc rfl 38 rfl ti8 _ (seenL d.S 0) hti8 hz8 rfl ?_; intro g9 w9 hg9 hlt9 hB9 hb9; (try go_frame))
    | (refine wpList_store_all rfl 38 _ _ rfl g9 rfl hB9 (seenL d.S 0) rfl rfl hone8 Hi8.out ?_; intro wA hBA hOA; (try go_frame)))
  have B8 : Below W.heap.size W w8 := (below_call hb1 hb1.size hb7).trans (hO8.below _ (by have := hb1.size; omega))
  have B9 : Below W.heap.size W wA := (below_call B8 B8.size hb9).trans (hOA.below _ (by have := B8.size; omega))
  have hne : g7 ≠ g9 := by have := hB8.lt; omega
  have hS : B wA g7 24 (u32s d.S) := (hB8.call hb9).only hOA hne
  have hg9' : W.heap.size ≤ g9 := by have := B8.size; omega
  clear cw hb1 hb7 hb9 hB7 hB8 hO8 hOA bld B8 hB9
  go_loopw [10] (fun i wr => ∃ k : Nat, k ≤ 256 ∧ i = .int .i64 (k : Int) ∧ B wr g7 24 (u32s d.S) ∧ B wr g9 38 (seenL d.S k) ∧ Below W.heap.size W wr) (fun i _ => 256 - (intOf i).toNat)
  case atStart => exact ⟨0, Nat.zero_le _, rfl, hS, hBA, B9⟩
  case round =>
    clear hS hBA B9
    obtain ⟨k, hkm, rfl, hB, hC, hbel⟩ := hrel
    by_cases hk256 : k < 256
    · have hk' : (k : Int) < 256 := by omega
      have hx := hlt k
      have hnew := seenL_new d.S hnd k (by rw [HLEN.out]; exact hk256) hx
      have f1 : wr.cell? ⟨g7, k, none⟩ = some (.int .u32 (d.S.getD k 0 : Nat)) := (hB.cell k).trans (u32s_get _ _ (by rw [HLEN.out]; exact hk256))
      have f2 : wr.cell? ⟨g9, d.S.getD k 0, none⟩ = some (.bool false) := (hC.cell _).trans hnew
      have hst := seenL_step d.S k (by rw [HLEN.out]; exact hk256)
      have HST := Lib.hid hst
      clear hnew hst
      generalize d.S.getD k 0 = x at hx f1 f2 HST
      have hx' : (x : Int) < 256 := by omega
      have hx'' : (x : Int) ≤ 255 := by omega
      go_wp2_with (refine wpList_store_one rfl 4 _ _ rfl g9 x rfl hC _ rfl (by rw [seenL_length]; exact hx) rfl (by kernel_rfl) ?_; intro wB hCB hOB; (try go_frame))
      go_roundw
      case rel =>
        refine ⟨k + 1, by omega, by go_num, hB.only hOB hne, ?_, hbel.trans (hOB.below _ hg9')⟩
        rw [← HST.out]; exact hCB
      case measure => simp [intOf]; omega
    · have hge : (256 : Int) ≤ (k : Int) := by omega
      have hj0 : (0 : Int) ≤ (d.j : Int) := by omega
      go_wp2
      go_ret
      exact ⟨rfl, hbel⟩
end Go.Proofs.Ytcmokpacocgolaa
