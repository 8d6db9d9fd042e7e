/- The walk of the thin package's Cleared. -/
import Derived.Test.YtcmokpacocgolaaWReset
import Derived.Test.YtcmokpacocgolaaEq
namespace Go.Proofs.Ytcmokpacocgolaa.Rc
open Go.RowKit Mem

theorem build24 (w : World) : (Instr.build 24 #[]).run Try.prog w = .ok (.agg (u32s zeros).toArray) w := by unfold zeros; kernel_rfl
theorem C0_ok : Ok C0 := by
  refine ⟨zeros_length, ?_, by decide, by decide⟩
  intro v hv
  have : v = 0 := by have h : v ∈ zeros := hv; unfold zeros at h; exact List.eq_of_mem_replicate h
  omega
theorem size24z : (Try.prog.info? 24).map (·.size) = some (u32s zeros).length := by rw [size24, u32s_length, zeros_length]

set_option maxRecDepth 100000 in
set_option maxHeartbeats 400000 in
theorem cleared_wrong (A : Option Addr) (n cap : Nat) (key : List Nat) (b : Nat) (w : World) (hk : Bytes w b A n key) (hb : b ≤ w.heap.size) (h : n < 1 ∨ 256 < n) (hn : n ≤ 2147483647) :
    Calls Try.prog 13 #[.slice A n cap] w fun e w' =>
      e = .returned (.tuple #[.agg (u32s zeros).toArray, .int .i64 0, .int .i64 0, .bool false]) ∧ Below w.heap.size w w' := by
  obtain ⟨ti, hti, hz, hsz⟩ := row24
  have hZ : (u32s zeros).length = 256 := by rw [u32s_length, zeros_length]
  have h1 := u32s_one zeros
  have HZ := Lib.hid hZ
  have hz24 := size24z
  clear hZ
  have bld := build24
  generalize u32s zeros = Z at hz h1 HZ hz24 bld ⊢
  go_enter Try.func13, Try.ntmps13
  go_wp2_with (first
    | (refine wpList_alloc rfl 24 rfl ti _ Z hti hz rfl ?_; intro g2 w2 hg2 hlt2 hB2 hb2; (try go_frame); have hk2 := hk.call (hb2.mono hb))
    | (go_at_call 26; refine (clone_any A n cap key b _ hk2 (by omega) hn).mono ?_; rintro e w3 ⟨A1, c1, rfl, hk3, hf3, hb3⟩; have hB3 := hB2.call hb3)
    | (go_at_call 25; refine (new_wrong A1 n c1 _ h (by omega)).mono ?_; rintro e w4 ⟨rfl, rfl⟩)
    | (refine wpList_build0 rfl 24 rfl _ bld ?_; (try go_frame))
    | (refine wpList_store_all rfl 24 _ _ rfl g2 rfl hB3 Z rfl rfl h1 hz24 ?_; intro w5 hB5 hO5; (try go_frame)))
  refine bodyPost_ret (results_block_tmps3 rfl _ _ g2 24 Z _ rfl hB5 Try.underlying24 rfl hz24) rfl ⟨rfl, ?_⟩
  exact (below_call hb2 hb2.size hb3).trans (hO5.below _ hg2)

set_option maxRecDepth 100000 in
set_option maxHeartbeats 400000 in
theorem cleared_right (A : Option Addr) (n cap : Nat) (key : List Nat) (b : Nat) (w : World) (hk : Bytes w b A n key) (hb : b ≤ w.heap.size) (hn : 1 ≤ n) (hn2 : n ≤ 256) (hv : ∀ v ∈ key, v < 256) :
    Calls Try.prog 13 #[.slice A n cap] w fun e w' =>
      e = .returned (.tuple #[.agg (u32s zeros).toArray, .int .i64 0, .int .i64 0, .bool true]) ∧ Below w.heap.size w w' := by
  obtain ⟨ti, hti, hz, hsz⟩ := row24
  have hlen := (keyed_ok key).len
  have HLEN := Lib.hid hlen
  clear hlen
  have hpa : ∀ g w, B w g 59 (cip C0) → Calls Try.prog 28 #[.pointer (some ⟨g, 0, none⟩)] w fun e w' =>
      e = .returned (.tuple #[.agg (u32s zeros).toArray, .int .u8 0, .int .u8 0]) ∧ Below w.heap.size w w' := fun g w h => parts_any C0 C0_ok g w h
  have hZ : (u32s zeros).length = 256 := by rw [u32s_length, zeros_length]
  have h1 := u32s_one zeros
  have HZ := Lib.hid hZ
  have hz24 := size24z
  clear hZ
  have h24 := Try.underlying24
  generalize u32s zeros = Z at hz h1 HZ hz24 hpa ⊢
  go_enter Try.func13, Try.ntmps13
  go_wp2_with (first
    | (refine wpList_alloc rfl 24 rfl ti _ Z hti hz rfl ?_; intro g2 w2 hg2 hlt2 hB2 hb2; (try go_frame); have hk2 := hk.call (hb2.mono hb))
    | (go_at_call 26; refine (clone_any A n cap key b _ hk2 (by omega) (by omega)).mono ?_; rintro e w3 ⟨A1, c1, rfl, hk3, hf3, hb3⟩; have hB3 := hB2.call hb3)
    | (go_at_call 25; refine (new_right A1 n c1 key _ _ hk3 (Nat.le_refl _) hn hn2 hv).mono ?_; rintro e w4 ⟨gc, rfl, hgc, hC4, hb4⟩; have hB4 := hB3.call hb4; have hne : g2 ≠ gc := (by have := hB3.lt; omega); have B4 := below_call (below_call hb2 hb2.size hb3) (by have := hb2.size; have := hb3.size; omega) hb4)
    | (go_at_call 27; refine (reset_any (keyed key) HLEN.out gc _ hC4).mono ?_; rintro e w5 ⟨rfl, hC5, hO5⟩; have hB5 := hB4.only hO5 hne; have B5 := B4.trans (hO5.below _ (by have := hB3.lt; omega)))
    | (go_at_call 28; refine (hpa gc _ hC5).mono ?_; rintro e w6 ⟨rfl, hb6⟩; have hB6 := hB5.call hb6; have B6 := below_call B5 B5.size hb6)
    | (refine wpList_alloc rfl 24 rfl ti _ Z hti hz rfl ?_; intro g7 w7 hg7 hlt7 hB7 hb7; (try go_frame); have hD7 := hB6.call hb7; have B7 := below_call B6 B6.size hb7; have hne7 : g2 ≠ g7 := (by have := hB6.lt; omega))
    | (refine wpList_store_all rfl 24 _ _ rfl g7 rfl hB7 Z rfl rfl h1 hz24 ?_; intro w8 hB8 hO8; (try go_frame); have hD8 := hD7.only hO8 hne7; have B8 := B7.trans (hO8.below _ (by have := B6.size; omega)))
    | (refine wpList_load_all rfl 24 _ rfl g7 rfl hB8 h24 rfl hz24 ?_)
    | (refine wpList_store_all rfl 24 _ _ rfl g2 rfl hD8 Z rfl rfl h1 hz24 ?_; intro w9 hB9 hO9; (try go_frame)))
  refine bodyPost_ret (results_block_tmps3 rfl _ _ g2 24 Z _ rfl hB9 h24 rfl hz24) rfl ⟨rfl, ?_⟩
  exact B8.trans (hO9.below _ hg2)

/-- The comparison of two permutations of numbers. -/
theorem eql24 (S T : List Nat) (hS : S.length = 256) (hT : T.length = 256) (w : World) : (binOp .eql 24 (.agg (u32s S).toArray) (.agg (u32s T).toArray)).run Try.prog w = .ok (.bool (S == T)) w := by
  obtain ⟨i23, hi, hs⟩ : ∃ ti, Try.prog.info? 23 = some ti ∧ ti.size = 1 := by
    have h : (Try.prog.info? 23).map (·.size) = some 1 := by kernel_rfl
    cases hq : Try.prog.info? 23 with
    | none => rw [hq] at h; cases h
    | some ti => rw [hq] at h; injection h with h; exact ⟨ti, rfl, h⟩
  have e : ∀ S : List Nat, (u32s S).toArray = Eq.ints .u32 (S.map fun n : Nat => (n : Int)) := fun S => by
    unfold u32s Eq.ints
    simp
  rw [e, e, Eq.run_eql_ints Try.underlying24 Try.underlying23 hi hs _ _ (by simpa using hS) (by simpa using hT) w]
  congr 2
  rw [Bool.eq_iff_iff, beq_iff_eq, beq_iff_eq]
  constructor
  · intro h
    have h2 := congrArg (List.map Int.toNat) h
    simpa [List.map_map, Function.comp_def] using h2
  · rintro rfl; rfl
end Go.Proofs.Ytcmokpacocgolaa.Rc
