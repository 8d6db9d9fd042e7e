/- The walk of the thin package's Pieces. -/
import Derived.Test.YtcmokpacocgolaaWRows
import Derived.Test.YtcmokpacocgolaaWNew
import Derived.Test.YtcmokpacocgolaaWXor
import Derived.Test.YtcmokpacocgolaaWMixed
namespace Go.Proofs.Ytcmokpacocgolaa.Rc
open Go.RowKit Mem

/-- The pieces of a stream put on rows, one behind the other. -/
def pcs (c : C) : List (List Nat) → List (List Nat)
  | [] => []
  | p :: ps => mix c p :: pcs (after c p.length) ps

theorem pcs_flatten (c : C) (ps : List (List Nat)) : (pcs c ps).flatten = mix c ps.flatten := by
  induction ps generalizing c with
  | nil => rfl
  | cons p ps ih => simp only [pcs, List.flatten_cons, ih, mix_append]
theorem after_add (c : C) (a b : Nat) : after (after c a) b = after c (a + b) := by
  induction b with
  | zero => rfl
  | succ b ih => show nxt (after (after c a) b) = nxt (after c (a + b)); rw [ih]
theorem pcs_append (c : C) (ps qs : List (List Nat)) : pcs c (ps ++ qs) = pcs c ps ++ pcs (after c ps.flatten.length) qs := by
  induction ps generalizing c with
  | nil => rfl
  | cons p ps ih =>
    simp only [List.cons_append, pcs, List.flatten_cons, List.length_append, ih]
    rw [after_add]
theorem pcs_length (c : C) (ps : List (List Nat)) : (pcs c ps).length = ps.length := by
  induction ps generalizing c with
  | nil => rfl
  | cons p ps ih => simp only [pcs, List.length_cons, ih]
theorem pcs_map_length (c : C) (ps : List (List Nat)) : (pcs c ps).map List.length = ps.map List.length := by
  induction ps generalizing c with
  | nil => rfl
  | cons p ps ih => simp only [pcs, List.map_cons, ih, mix_length]

/-- New rows: each a block of its own, known whole. -/
def heads (M : List (Nat × List Nat)) : List (Hdr × List Nat) := M.map fun x => (⟨some ⟨x.1, 0, none⟩, x.2.length, x.2.length⟩, x.2)
def hcells (M : List (Nat × List Nat)) : List Value := M.map fun x => .slice (some ⟨x.1, 0, none⟩) x.2.length x.2.length
def Laid (w : World) (M : List (Nat × List Nat)) : Prop := ∀ x ∈ M, B w x.1 5 (u8s x.2)

theorem info22 : (Try.prog.info? 22).map (fun i => (i.zero, i.size, i.bytes)) = some (some (.slice none 0 0), 1, 24) := by kernel_rfl

theorem hcells_eq (M : List (Nat × List Nat)) : (heads M).map (fun x => x.1.val) = hcells M := by
  unfold heads hcells
  rw [List.map_map]
  rfl

theorem rows_of {w : World} {base n : Nat} {v : Value} {M : List (Nat × List Nat)} (ho : w.ownsRow base 22 1 v n (hcells M)) (hl : Laid w M) (hm : ∀ x ∈ M, x.2.length ≤ 9223372036854775807) :
    ∃ A c, v = .slice A n c ∧ Rows w w.heap.size A n (heads M) := by
  have rows : ∀ x ∈ heads M, Bytes w w.heap.size x.1.A x.1.n x.2 ∧ x.1.n ≤ 9223372036854775807 := by
    intro x hx
    obtain ⟨y, hy, rfl⟩ := List.mem_map.1 hx
    refine ⟨bytes_of_B (r := []) (by rw [List.append_nil]; exact hl y hy) rfl, hm y hy⟩
  rcases ho.2 with ⟨rfl, h0⟩ | ⟨g, cap, cur, rfl, hg, hh, hnc, hcm, hsz, ht⟩
  · have hl0 := ho.1
    rw [h0] at hl0
    have hl1 : hcells M = [] := List.eq_nil_of_length_eq_zero (by simpa using hl0)
    refine ⟨none, 0, by rw [h0], ⟨by rw [hcells_eq, hl1, h0]; exact Reads.none_, rows⟩⟩
  · exact ⟨_, _, rfl, ⟨by rw [hcells_eq]; exact Reads.of_own ho, rows⟩⟩

/-- A stream put on bytes into new ones, none or some. -/
theorem xor_new (c : C) (hc : Ok c) (gc gd n c4 : Nat) (A4 : Option Addr) (vs : List Nat) (b : Nat) (w : World) (hs : Bytes w b A4 n vs) (hvs : ∀ v ∈ vs, v < 256) (hn : n ≤ 2147483647) (hC : B w gc 59 (cip c)) (hD : B w gd 5 (List.replicate n (.int .u8 0)))
    (h1 : gc ≠ gd) (hf : ∀ ad, A4 = some ad → ad.block ≠ gc ∧ ad.block ≠ gd) :
    Calls Try.prog 29 #[.pointer (some ⟨gc, 0, none⟩), .slice (some ⟨gd, 0, none⟩) n n, .slice A4 n c4] w fun e w' =>
      e = .returned (.tuple #[]) ∧ B w' gc 59 (cip (after c n)) ∧ B w' gd 5 (u8s (mix c vs)) ∧ Only2 gc gd w w' := by
  rcases Nat.eq_zero_or_pos n with h0 | h0
  · subst h0
    have hvn : vs = [] := List.eq_nil_of_length_eq_zero hs.length
    subst hvn
    refine (xor_none _ _ _ _ _ _ _).mono ?_
    rintro e w' ⟨rfl, rfl⟩
    exact ⟨rfl, hC, hD, Only2.refl _ _ _⟩
  · obtain ⟨ad, rfl, had, hcell⟩ := hs.at_ h0
    obtain ⟨f1, f2⟩ := hf ad rfl
    refine (xor_some c hc gc gd n n c4 ad vs (List.replicate n (.int .u8 0)) w h0 (Nat.le_refl _) hn hs.length hvs hC hD (by rw [List.length_replicate]; exact Nat.le_refl _) h1 (fun i _ hi => hcell i hi) f1 (.inl f2)).mono ?_
    rintro e w' ⟨rfl, hC', hD', hO⟩
    rw [List.drop_of_length_le (by rw [List.length_replicate]; exact Nat.le_refl _), List.append_nil] at hD'
    exact ⟨rfl, hC', hD', hO⟩

theorem own_only2 {w w' : World} {base n g g' : Nat} {e t t' : TypeId} {v : Value} {xs l l' : List Value} (h : w.ownsRow base e 1 v n xs) (hg : B w g t l) (hg' : B w g' t' l') (hne : e ≠ t) (hne' : e ≠ t') (hO : Only2 g g' w w') : w'.ownsRow base e 1 v n xs :=
  own_same h fun k he _ => hO.block k (fun e' => own_ne h hg hne (by rw [he, e'])) (fun e' => own_ne h hg' hne' (by rw [he, e']))

set_option maxHeartbeats 400000 in
theorem pieces_wrong (A : Option Addr) (n cap : Nat) (key : List Nat) (p : Value) (b : Nat) (w : World) (hk : Bytes w b A n key) (hb : b ≤ w.heap.size) (h : n < 1 ∨ 256 < n) (hn : n ≤ 2147483647) :
    Calls Try.prog 24 #[.slice A n cap, p] w fun e w' =>
      e = .returned (.tuple #[.slice none 0 0, .bool false]) ∧ Below w.heap.size w w' := by
  go_enter Try.func24, Try.ntmps24
  go_wp2_with (first
    | (go_at_call 26; refine (clone_any A n cap key b _ hk hb hn).mono ?_; rintro e w1 ⟨A1, c1, rfl, hk1, hf1, hb1⟩)
    | (go_at_call 25; refine (new_wrong A1 n c1 _ h (by omega)).mono ?_; rintro e w2 ⟨rfl, rfl⟩))
  go_ret2
  exact ⟨rfl, hb1⟩

set_option maxRecDepth 100000 in
set_option maxHeartbeats 1000000 in
theorem pieces_any (A : Option Addr) (n cap : Nat) (key : List Nat) (Ap : Option Addr) (m capp : Nat) (L : List (Hdr × List Nat)) (b : Nat) (w : World) (hk : Bytes w b A n key) (hr : Rows w b Ap m L) (hb : b ≤ w.heap.size)
    (hn : 1 ≤ n) (hn2 : n ≤ 256) (hv : ∀ v ∈ key, v < 256) (hvs : ∀ x ∈ L, ∀ v ∈ x.2, v < 256) (hm : m ≤ 1000) (hL : ∀ x ∈ L, x.1.n ≤ 2147483647) :
    Calls Try.prog 24 #[.slice A n cap, .slice Ap m capp] w fun e w' =>
      ∃ A' c' M, e = .returned (.tuple #[.slice A' m c', .bool true]) ∧ M.map (·.2) = pcs (keyed key) (L.map (·.2)) ∧ Rows w' w'.heap.size A' m (heads M) ∧ Below w.heap.size w w' := by
  obtain ⟨i0, hi0, hz0, hz1, hz2⟩ := info_parts info5
  obtain ⟨i1, hi1, hy0, hy1, hy2⟩ := info_parts info22
  have hkok := keyed_ok key
  have hll := hr.length
  have HLL := Lib.hid hll
  clear hll
  have hm' : (m : Int) ≤ 1000 := by omega
  go_enter Try.func24, Try.ntmps24
  go_wp2_with fail
  refine (clone_any A n cap key b _ hk hb (by omega)).mono ?_
  rintro e w1 ⟨A1, c1, rfl, hk1, hf1, hb1⟩
  go_wp2_with fail
  refine (new_right A1 n c1 key _ _ hk1 (Nat.le_refl _) hn hn2 hv).mono ?_
  rintro e w2 ⟨gc, rfl, hgc, hC, hb2⟩
  have s1 := hb1.size
  have s2 := hb2.size
  have B2 : Below w.heap.size w w2 := below_call hb1 s1 hb2
  clear hb1 hb2 hk1 hf1
  go_wp2_with fail
  have hown0 : w2.ownsRow w.heap.size 22 1 (.slice none 0 0) 0 (hcells []) := ⟨rfl, .inl ⟨rfl, rfl⟩⟩
  go_loopw [8, 22] (fun out i wr => ∃ k : Nat, ∃ M : List (Nat × List Nat), k ≤ m ∧ i = .int .i64 (k : Int) ∧ M.map (·.2) = pcs (keyed key) ((L.take k).map (·.2)) ∧ B wr gc 59 (cip (after (keyed key) (upTo L k).length)) ∧ wr.ownsRow w.heap.size 22 1 out k (hcells M) ∧ Laid wr M ∧ Below w.heap.size w wr) (fun _ i _ => m - (intOf i).toNat)
  case atStart => exact ⟨0, [], Nat.zero_le _, rfl, rfl, hC, hown0, (fun x hx => by cases hx), B2⟩
  case round =>
    clear hC hown0 B2
    obtain ⟨k, M, hkm, rfl, hM, hC, hown, hlaid, hbel⟩ := hrel
    by_cases hlt : k < m
    · have hlt' : (k : Int) < (m : Int) := by omega
      have hkl : k < L.length := by rw [HLL.out]; exact hlt
      have hmem := List.getElem_mem hkl
      have hrw := hr.call (hbel.mono hb)
      obtain ⟨ad, rfl, had, hcell⟩ := hrw.at_ (by omega)
      have f1 := hcell k hkl
      have hrow := (hrw.row _ hmem).1
      have hxn := hL _ hmem
      have hpv := hvs _ hmem
      have hd := after_ok hkok (upTo L k).length
      have hsucc := upTo_succ L k hkl
      have htk : (L.take (k + 1)).map (·.2) = (L.take k).map (·.2) ++ [L[k].2] := by rw [List.take_succ_eq_append_getElem hkl, List.map_append]; rfl
      have hfl : ((L.take k).map (·.2)).flatten.length = (upTo L k).length := by unfold upTo; rw [List.flatMap_def]
      have hM2 : (M.map (·.2)) ++ [mix (after (keyed key) (upTo L k).length) L[k].2] = pcs (keyed key) ((L.take (k + 1)).map (·.2)) := by
        rw [htk, pcs_append, hM, hfl]; rfl
      have haf : after (keyed key) (upTo L (k + 1)).length = after (after (keyed key) (upTo L k).length) L[k].2.length := by
        rw [after_add, hsucc, List.length_append]
      have HM2 := Lib.hid hM2
      have HAF := Lib.hid haf
      clear hcell hsucc htk hfl hM2 haf hM hmem hrw
      generalize after (keyed key) (upTo L k).length = d at hC hd HM2 HAF
      generalize L[k].2 = p at hrow hpv HM2 HAF
      generalize L[k].1.A = xA at f1 hrow
      generalize L[k].1.c = xc at f1
      generalize L[k].1.n = xn at f1 hrow hxn
      have hpl := hrow.length
      have hmx : (mix d p).length = xn := by rw [mix_length, hpl]
      have HMX := Lib.hid hmx
      have HPL := Lib.hid hpl
      clear hmx hpl
      have sr := hbel.size
      have hcl := hC.lt
      go_wp2_with (refine wpList_make_B rfl 22 5 _ _ rfl i0 (.int .u8 0) Try.underlying22 hi0 hz0 hz1 rfl .i64 .i64 xn rfl rfl (by rw [hz2]; omega) (by omega) ?_; intro gd w3 hgd hlt3 hD3 hb3; (try go_frame))
      refine (clone_any xA xn xc p b _ (hrow.call (hb3.mono (by omega))) (by have := hb3.size; omega) hxn).mono ?_
      rintro e w4 ⟨A4, c4, rfl, hs4, hf4, hb4⟩
      have hC4 := (hC.call hb3).call hb4
      have hD4 := hD3.call hb4
      have s3 := hb3.size
      have s4 := hb4.size
      have B4 : Below w.heap.size w w4 := below_call (below_call hbel sr hb3) (by omega) hb4
      have own4 := own_call (own_call hown hb3) hb4
      go_wp2_with fail
      refine (xor_new d hd gc gd xn c4 A4 p _ w4 hs4 hpv hxn hC4 hD4 (by omega) (fun a ha => by have := hf4 a ha; omega)).mono ?_
      rintro e w5 ⟨rfl, hC5, hD5, hO5⟩
      have own5 := own_only2 own4 hC4 hD4 (by decide) (by decide) hO5
      have B5 : Below w.heap.size w w5 := B4.trans (hO5.below _ (by omega) (by omega))
      have laid5 : Laid w5 (M ++ [(gd, mix d p)]) := by
        intro x hx
        rcases List.mem_append.1 hx with h | h
        · have h0 := hlaid x h
          exact ((h0.call hb3).call hb4).only2 hO5 (h0.ne_ hC (by decide)) (by have := h0.lt; omega)
        · rw [List.mem_singleton.1 h]; exact hD5
      clear hlaid hD5 hD4 hD3 hC4 hO5 hb3 hb4 hs4 hf4 B4 own4 hown hC
      have hoa := World.ownsRow.alloc own5 (.cells #[.slice (some ⟨gd, 0, none⟩) xn xn] 22)
      go_wp2_with (at_builtin; refine wpList_append_any _ rfl (.tmp 34) (.tmp 36) _ rfl w.heap.size 22 i1 _ 1 24 Try.underlying39 hi1 hy0 hy1 hy2 rfl (by omega) _ k (hcells M) rfl hoa (w5.heap.size + 1) (some ⟨w5.heap.size, 0, none⟩) 1 1 [.slice (some ⟨gd, 0, none⟩) xn xn] rfl (new_one w5 _ _) (by simp [Value.oneCell']) (by simp only [maxLen]; omega) (by omega) (by have := B5.size; simp; omega) ?_; intro v7 w7 hown7 hg7 hat7)
      go_roundw
      case rel =>
        have hca := hC5.alloc (.cells #[.slice (some ⟨gd, 0, none⟩) xn xn] 22)
        refine ⟨k + 1, M ++ [(gd, mix d p)], by omega, by go_num, ?_, ?_, ?_, ?_, (B5.alloc B5.size _).grown hg7 (by have := B5.size; simp; omega) (own_base hoa)⟩
        · rw [List.map_append]; exact HM2.out
        · rw [HAF.out, HPL.out]; exact hca.grown hg7 (own_ne hoa hca (by decide))
        · have e : hcells (M ++ [(gd, mix d p)]) = hcells M ++ [.slice (some ⟨gd, 0, none⟩) xn xn] := by
            unfold hcells; rw [List.map_append, List.map_cons, List.map_nil, HMX.out]
          rw [e]; exact hown7
        · intro x hx
          have hxa := (laid5 x hx).alloc (.cells #[.slice (some ⟨gd, 0, none⟩) xn xn] 22)
          exact hxa.grown hg7 (own_ne hoa hxa (by decide))
      case measure => simp [intOf]; omega
    · have hge : (m : Int) ≤ (k : Int) := by omega
      have hkm' : k = m := by omega
      have htl : L.take k = L := List.take_of_length_le (by rw [HLL.out]; omega)
      have HT := Lib.hid htl
      have HK := Lib.hid hkm'
      clear htl hkm'
      go_wp2
      go_ret2
      rw [HT.out] at hM
      rw [HK.out] at hown
      obtain ⟨A', c', rfl, hR⟩ := rows_of hown hlaid (fun x hx => by
        have h1 : x.2.length ∈ (M.map (·.2)).map List.length := List.mem_map.2 ⟨x.2, List.mem_map.2 ⟨x, hx, rfl⟩, rfl⟩
        rw [hM, pcs_map_length, List.map_map] at h1
        obtain ⟨y, hy, hyl⟩ := List.mem_map.1 h1
        have := hL y hy
        have := (hr.row y hy).1.length
        simp only [Function.comp_apply] at hyl
        omega)
      exact ⟨A', c', M, rfl, hM, hR, hbel⟩
end Go.Proofs.Ytcmokpacocgolaa.Rc
