/- The walk of the thin package's State. -/
import Derived.Test.YtcmokpacocgolaaWCleared
import Derived.Test.YtcmokpacocgolaaWXor
import Derived.Deep.RegionWith
namespace Go.Proofs.Ytcmokpacocgolaa.Rc
open Go.RowKit Mem

/-- Of the blocks that there were, only block g has turned. -/
structure Past (g : Nat) (w w' : World) : Prop where
  os : w'.os = w.os
  tape : w'.tape = w.tape
  output : w'.output = w.output
  size : w.heap.size ≤ w'.heap.size
  block : ∀ k, k < w.heap.size → k ≠ g → w'.heap[k]? = w.heap[k]?
theorem Past.below {g : Nat} {w w' : World} (h : Past g w w') (b : Nat) (hb : b ≤ g) (hs : b ≤ w.heap.size) : Below b w w' := ⟨h.os, h.tape, h.output, by have := h.size; omega, fun k hk => h.block k (by omega) (by omega)⟩
theorem B_past {g g' : Nat} {w w' : World} {t : TypeId} {l : List Value} (h : B w g t l) (hp : Past g' w w') (hne : g ≠ g') : B w' g t l := (hp.block g h.lt hne).trans h

/-- n zero bytes. -/
def zs (n : Nat) : List Value := List.replicate n (.int .u8 0)
def mk (n : Nat) : Obj := .cells (zs n).toArray 5

theorem make_run (n : Nat) (hn : n ≤ 2147483647) (w : World) : (Instr.makeSlice 22 (.int .i64 (n : Int)) (.int .i64 (n : Int))).run Try.prog w = .ok (.slice (some ⟨w.heap.size, 0, none⟩) n n) (w.alloc (mk n)) := by
  obtain ⟨i0, hi0, hz0, hz1, hz2⟩ := info_parts info5
  have hr := run_make (P := Try.prog) w 22 5 i0 _ Try.underlying22 hi0 hz0 .i64 .i64 n n (by omega) (Int.le_refl _) (by rw [hz2]; omega) (by omega)
  simp only [Int.toNat_natCast, hz1, Nat.mul_one] at hr
  have e1 : madeCells (Value.cells (.int .u8 0)) n = (zs n).toArray := by
    show madeCells #[_] n = _
    unfold zs; rw [← toList_madeCells_one, Array.toArray_toList]
  rw [e1] at hr
  exact hr

/-- A stream put on zeros: what is wanted of it is the cipher behind it. -/
theorem xor_zeros (c : C) (hc : Ok c) (gc gd gs n : Nat) (w : World) (hn : n ≤ 2147483647) (hC : B w gc 59 (cip c)) (hD : B w gd 5 (zs n)) (hS : B w gs 5 (zs n)) (h1 : gc ≠ gd) (h2 : gs ≠ gd) (h3 : gs ≠ gc) :
    Calls Try.prog 29 #[.pointer (some ⟨gc, 0, none⟩), .slice (some ⟨gd, 0, none⟩) n n, .slice (some ⟨gs, 0, none⟩) n n] w fun e w' =>
      e = .returned (.tuple #[]) ∧ B w' gc 59 (cip (after c n)) ∧ Only2 gc gd w w' := by
  rcases Nat.eq_zero_or_pos n with h0 | h0
  · subst h0
    refine (xor_none _ _ _ _ _ _ _).mono ?_
    rintro e w' ⟨rfl, rfl⟩
    exact ⟨rfl, hC, Only2.refl _ _ _⟩
  · refine (xor_some c hc gc gd n n n ⟨gs, 0, none⟩ (List.replicate n 0) (zs n) w h0 (Nat.le_refl _) hn (by simp) (fun v hv => by rw [List.eq_of_mem_replicate hv]; omega) hC hD (by unfold zs; rw [List.length_replicate]; exact Nat.le_refl _) h1 ?_ h3 (.inl h2)).mono ?_
    · intro i _ hi
      rw [Addr.add_mid, Nat.zero_add, hS.cell]
      simp [zs, hi, List.getD]
    · rintro e w' ⟨rfl, hC', _, hO⟩
      exact ⟨rfl, hC', hO⟩

/-- The two makes and the call behind them: of two new blocks, whichever is laid first. -/
theorem two_zeros (c : C) (hc : Ok c) (gc n : Nat) (w : World) (hn : n ≤ 2147483647) (hC : B w gc 59 (cip c)) (i j : Nat) (hij : i = 0 ∧ j = 1 ∨ i = 1 ∧ j = 0) :
    Calls Try.prog 29 #[.pointer (some ⟨gc, 0, none⟩), .slice (some ⟨w.heap.size + i, 0, none⟩) n n, .slice (some ⟨w.heap.size + j, 0, none⟩) n n] ((w.alloc (mk n)).alloc (mk n)).drew fun e w' =>
      e = .returned (.tuple #[]) ∧ B w' gc 59 (cip (after c n)) ∧ Past gc w w' := by
  have hl := hC.lt
  have b0 : B ((w.alloc (mk n)).alloc (mk n)).drew w.heap.size 5 (zs n) := ((B.new w 5 (zs n)).alloc _).drew
  have b1 : B ((w.alloc (mk n)).alloc (mk n)).drew (w.heap.size + 1) 5 (zs n) := by
    have h := (B.new (w.alloc (mk n)) 5 (zs n)).drew
    rw [show (w.alloc (mk n)).heap.size = w.heap.size + 1 by simp] at h
    exact h
  have bc : B ((w.alloc (mk n)).alloc (mk n)).drew gc 59 (cip c) := ((hC.alloc _).alloc _).drew
  have hb : Below w.heap.size w ((w.alloc (mk n)).alloc (mk n)).drew := (((Below.refl w.heap.size w).alloc (Nat.le_refl _) _).alloc (by simp) _).drew
  have past : ∀ gd w', w.heap.size ≤ gd → Only2 gc gd ((w.alloc (mk n)).alloc (mk n)).drew w' → Past gc w w' := fun gd w' hgd hO =>
    ⟨hO.os.trans hb.os, hO.tape.trans hb.tape, hO.output.trans hb.output, by rw [hO.size]; exact hb.size, fun k hk hne => (hO.block k hne (by omega)).trans (hb.block k hk)⟩
  rcases hij with ⟨rfl, rfl⟩ | ⟨rfl, rfl⟩
  · refine (xor_zeros c hc gc (w.heap.size + 0) (w.heap.size + 1) n _ hn bc b0 b1 (by omega) (by omega) (by omega)).mono ?_
    rintro e w' ⟨rfl, h1, hO⟩
    exact ⟨rfl, h1, past _ _ (by omega) hO⟩
  · refine (xor_zeros c hc gc (w.heap.size + 1) (w.heap.size + 0) n _ hn bc b1 b0 (by omega) (by omega) (by omega)).mono ?_
    rintro e w' ⟨rfl, h1, hO⟩
    exact ⟨rfl, h1, past _ _ (by omega) hO⟩
set_option maxRecDepth 100000 in
set_option maxHeartbeats 400000 in
theorem state_wrong (A : Option Addr) (n cap : Nat) (key : List Nat) (q : Nat) (b : Nat) (w : World) (hk : Bytes w b A n key) (hb : b ≤ w.heap.size) (h : n < 1 ∨ 256 < n) (hn : n ≤ 2147483647) :
    Calls Try.prog 18 #[.slice A n cap, .int .i64 (q : Int)] w fun e w' =>
      e = .returned (.tuple #[.agg (u32s zeros).toArray, .int .i64 0, .int .i64 0, .bool false]) ∧ Below w.heap.size w w' := by
  obtain ⟨ti, hti, hz, hsz⟩ := row24
  have hZ : (u32s zeros).length = 256 := by rw [u32s_length, zeros_length]
  have h1 := u32s_one zeros
  have HZ := Lib.hid hZ
  have hz24 := size24z
  clear hZ
  have bld := build24
  generalize u32s zeros = Z at hz h1 HZ hz24 bld ⊢
  go_enter Try.func18, Try.ntmps18
  go_wp2_with (first
    | (refine wpList_alloc rfl 24 rfl ti _ Z hti hz rfl ?_; intro g2 w2 hg2 hlt2 hB2 hb2; (try go_frame); have hk2 := hk.call (hb2.mono hb))
    | (go_at_call 26; refine (clone_any A n cap key b _ hk2 (by omega) hn).mono ?_; rintro e w3 ⟨A1, c1, rfl, hk3, hf3, hb3⟩; have hB3 := hB2.call hb3)
    | (go_at_call 25; refine (new_wrong A1 n c1 _ h (by omega)).mono ?_; rintro e w4 ⟨rfl, rfl⟩)
    | (refine wpList_build0 rfl 24 rfl _ bld ?_; (try go_frame))
    | (refine wpList_store_all rfl 24 _ _ rfl g2 rfl hB3 Z rfl rfl h1 hz24 ?_; intro w5 hB5 hO5; (try go_frame)))
  refine bodyPost_ret (results_block_tmps3 rfl _ _ g2 24 Z _ rfl hB5 Try.underlying24 rfl hz24) rfl ⟨rfl, ?_⟩
  exact (below_call hb2 hb2.size hb3).trans (hO5.below _ hg2)

set_option maxRecDepth 100000 in
set_option maxHeartbeats 1000000 in
theorem state_right (A : Option Addr) (n cap : Nat) (key : List Nat) (q : Nat) (hq : q ≤ 2147483647) (b : Nat) (w : World) (hk : Bytes w b A n key) (hb : b ≤ w.heap.size) (hn : 1 ≤ n) (hn2 : n ≤ 256) (hv : ∀ v ∈ key, v < 256) :
    Calls Try.prog 18 #[.slice A n cap, .int .i64 (q : Int)] w fun e w' =>
      e = .returned (.tuple #[.agg (u32s (after (keyed key) q).S).toArray, .int .i64 ((after (keyed key) q).i : Int), .int .i64 ((after (keyed key) q).j : Int), .bool true]) ∧ Below w.heap.size w w' := by
  obtain ⟨ti, hti, hz, hsz⟩ := row24
  have hd := after_ok (keyed_ok key) q
  have two := fun gc w hC i j hij => two_zeros (keyed key) (keyed_ok key) gc q w hq hC i j hij
  generalize after (keyed key) q = d at hd two ⊢
  have hlen := hd.len
  have hi256 : (d.i : Int) < 256 := by have := hd.i; omega
  have hj256 : (d.j : Int) < 256 := by have := hd.j; omega
  have hpa := fun g w h => parts_any d hd g w h
  have hL : (Try.prog.info? 24).map (·.size) = some (u32s d.S).length := by rw [size24, u32s_length, hlen]
  have hZ : (u32s d.S).length = (u32s zeros).length := by rw [u32s_length, u32s_length, hlen, zeros_length]
  have h1 := u32s_one d.S
  have h24 := Try.underlying24
  have HL := Lib.hid hL
  have HZ := Lib.hid hZ
  have HD := Lib.hid hd
  clear hlen hL hZ hd
  generalize u32s zeros = Z at hz HZ
  generalize u32s d.S = L at h1 HL HZ hpa ⊢
  have hmk := make_run q hq
  go_enter Try.func18, Try.ntmps18
  go_wp2_with (first
    | (refine wpList_alloc rfl 24 rfl ti _ Z hti hz rfl ?_; intro g2 w2 hg2 hlt2 hB2 hb2; (try go_frame); have hk2 := hk.call (hb2.mono hb))
    | (go_at_call 26; refine (clone_any A n cap key b _ hk2 (by omega) (by omega)).mono ?_; rintro e w3 ⟨A1, c1, rfl, hk3, hf3, hb3⟩; have hB3 := hB2.call hb3)
    | (go_at_call 25; refine (new_right A1 n c1 key _ _ hk3 (Nat.le_refl _) hn hn2 hv).mono ?_; rintro e w4 ⟨gc, rfl, hgc, hC4, hb4⟩; have hB4 := hB3.call hb4; have hne : g2 ≠ gc := (by have := hB3.lt; omega); have B4 := below_call (below_call hb2 hb2.size hb3) (by have := hb2.size; have := hb3.size; omega) hb4))
  have T1 := two gc w4 hC4 0 1 (.inl ⟨rfl, rfl⟩)
  have T2 := two gc w4 hC4 1 0 (.inr ⟨rfl, rfl⟩)
  rw [Nat.add_zero] at T1 T2
  have hgc0 : w.heap.size ≤ gc := by have := hB3.lt; have := hb2.size; have := hb3.size; omega
  clear two hk hk2 hk3 hf3 hb2 hb3 hb4 hB2 hB3
  go_region_with (first
    | (go_at_call 29; with_reducible refine Calls.mono T1 ?_; rintro e w5 ⟨rfl, hC5, hP5⟩)
    | (go_at_call 29; with_reducible refine Calls.mono T2 ?_; rintro e w5 ⟨rfl, hC5, hP5⟩))
  all_goals (
    clear T1 T2 hmk
    have hB5 := B_past hB4 hP5 hne
    have B5 := B4.trans (hP5.below _ hgc0 B4.size)
    clear hB4 hC4 hP5
    go_wp2_with (first
      | (go_at_call 28; refine (hpa gc _ hC5).mono ?_; rintro e w6 ⟨rfl, hb6⟩; have hB6 := hB5.call hb6; have B6 := below_call B5 B5.size hb6)
      | (refine wpList_alloc rfl 24 rfl ti _ Z hti hz rfl ?_; intro g7 w7 hg7 hlt7 hB7 hb7; (try go_frame); have hD7 := hB6.call hb7; have B7 := below_call B6 B6.size hb7; have hne7 : g2 ≠ g7 := (by have := hB6.lt; omega))
      | (refine wpList_store_all rfl 24 _ _ rfl g7 rfl hB7 L rfl HZ.out h1 HL.out ?_; intro w8 hB8 hO8; (try go_frame); have hD8 := hD7.only hO8 hne7; have B8 := B7.trans (hO8.below _ (by have := B6.size; omega)))
      | (refine wpList_load_all rfl 24 _ rfl g7 rfl hB8 h24 rfl HL.out ?_)
      | (refine wpList_store_all rfl 24 _ _ rfl g2 rfl hD8 L rfl HZ.out h1 HL.out ?_; intro w9 hB9 hO9; (try go_frame)))
    refine bodyPost_ret (results_block_tmps3 rfl _ _ g2 24 L _ rfl hB9 h24 rfl HL.out) rfl ⟨rfl, ?_⟩
    exact B8.trans (hO9.below _ hg2))
end Go.Proofs.Ytcmokpacocgolaa.Rc
