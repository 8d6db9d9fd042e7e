/- The walk of the package's block. -/
import Derived.Test.YtjhpffenlhfilaaCha
import Derived.Test.YtjhpffenlhfilaaWQr
namespace Go.Proofs.Ytjhpffenlhfilaa.Ch
open Go.RowKit Mem

attribute [local go_sem high] bo_shl64 bo_shr64 bo_or64 bo_shl64w bo_or64w bo_orw64 bo_add
attribute [local go_sem] n64_lo n64_wrap32 n64_wrapw n32_wrap_self

theorem zero51b : (Try.prog.info? 51).map (fun i => (i.zero, i.size)) = some (some (.agg (w32s (List.replicate 64 0)).toArray), 64) := by kernel_rfl
theorem size51b : (Try.prog.info? 51).map (·.size) = some 64 := by kernel_rfl
def Z64b : List Value := w32s (List.replicate 64 0)
theorem Z64b_length : Z64b.length = 64 := by simp [Z64b, w32s]

/-- The first p numbers filled in; one more. -/
theorem fill_set (R : List V) (l : List Value) (p : Nat) (v : V) (hR : p < R.length) (hl : p < l.length) (hv : R.getD p 0 = v) :
    (u64s (R.take p) ++ l.drop p).set p (.int .u64 (n64 v)) = u64s (R.take (p + 1)) ++ l.drop (p + 1) := by
  have hlen : (u64s (R.take p)).length = p := by rw [u64s_length, List.length_take]; omega
  have hv' : R[p] = v := by rw [← hv]; simp [List.getD, hR]
  rw [List.set_append_right _ _ (by omega), hlen, Nat.sub_self, List.drop_eq_getElem_cons hl, List.set_cons_zero, List.take_succ_eq_append_getElem hR, u64s_append, hv', List.append_assoc]
  rfl
theorem pairs_two (N : List W) (i : Nat) (hi : i < 16) : (pairs N).getD (2 * i) 0 = two (N.getD (4 * i) 0) (N.getD (4 * i + 1) 0) ∧ (pairs N).getD (2 * i + 1) 0 = two (N.getD (4 * i + 2) 0) (N.getD (4 * i + 3) 0) := by
  constructor
  · rw [pairs_get _ _ (by omega), show 2 * (2 * i) = 4 * i by omega]
  · rw [pairs_get _ _ (by omega), show 2 * (2 * i + 1) = 4 * i + 2 by omega]

set_option maxRecDepth 100000 in
set_option maxHeartbeats 20000000 in
theorem block_any (gs os gd : Nat) (T : TypeId) (l : List Value) (s0 s1 s2 s3 : V) (c : W) (w : World) (hlt : gs < w.heap.size) (hl : 32 ≤ l.length)
    (q0 : w.cell? ⟨gs, os, none⟩ = some (.int .u64 (n64 s0))) (q1 : w.cell? ⟨gs, os + 1, none⟩ = some (.int .u64 (n64 s1))) (q2 : w.cell? ⟨gs, os + 2, none⟩ = some (.int .u64 (n64 s2))) (q3 : w.cell? ⟨gs, os + 3, none⟩ = some (.int .u64 (n64 s3)))
    (hD : B w gd T l) :
    Calls Try.prog 68 #[.pointer (some ⟨gs, os, none⟩), .pointer (some ⟨gd, 0, none⟩), .int .u32 (n32 c)] w fun e w' =>
      e = .returned (.tuple #[]) ∧ B w' gd T (u64s (blockL s0 s1 s2 s3 c) ++ l.drop 32) ∧ Past gd w w' := by
  obtain ⟨ti, hti, hz, hsz⟩ := row_of zero51b
  have hz' : ti.zero = some (.agg Z64b.toArray) := hz
  have hgd := hD.lt
  go_enter Try.func68, Try.ntmps68
  go_wp2_with (refine wpList_alloc rfl 51 rfl ti _ Z64b hti hz' rfl ?_; intro gb w1 hgb hlt1 hB1 hb1; (try go_frame))
  refine (setup_any gs os gb s0 s1 s2 s3 c Z64b Z64b_length w1 (by have := hb1.size; omega) ((hb1.cell (p := ⟨gs, os, none⟩) hlt).trans q0) ((hb1.cell (p := ⟨gs, os + 1, none⟩) hlt).trans q1) ((hb1.cell (p := ⟨gs, os + 2, none⟩) hlt).trans q2) ((hb1.cell (p := ⟨gs, os + 3, none⟩) hlt).trans q3) hB1).mono ?_
  rintro e w2 ⟨rfl, hB2, hp2⟩
  have b2 : Below w.heap.size w w2 := below_past hb1 hgb hb1.size hp2
  have hM : (setupL s0 s1 s2 s3 c).length = 64 := setupL_length _ _ _ _ _
  have hbl : blockL s0 s1 s2 s3 c = pairs (cols (setupL s0 s1 s2 s3 c) 4) := rfl
  have hB2' : B w2 gb 51 (w32s (setupL s0 s1 s2 s3 c)) := hB2
  have HBL := Lib.hid hbl
  have HM := Lib.hid hM
  clear hbl hM hB2 hp2 hb1 hB1 hti hz hz' hsz
  generalize setupL s0 s1 s2 s3 c = M at HBL HM hB2'
  generalize hRes : blockL s0 s1 s2 s3 c = R at HBL
  have HRES := Lib.hid hRes
  clear hRes
  rw [← cols_zero M HM.out] at hB2'
  go_wp2_with fail
  go_loopw [31] (fun i wr => ∃ k : Nat, k ≤ 4 ∧ i = .int .i64 (k : Int) ∧ B wr gb 51 (w32s (cols M k)) ∧ Below w.heap.size w wr) (fun i _ => 4 - (intOf i).toNat)
  case atStart => exact ⟨0, Nat.zero_le _, rfl, hB2', b2⟩
  case round =>
    clear hB2' b2
    obtain ⟨k, hk, rfl, hB, hbel⟩ := hrel
    by_cases hk4 : k < 4
    · have hk' : (k : Int) < 4 := by omega
      have hCl := cols_length M k
      have hstep := cols_step M k hk4
      have HSTEP := Lib.hid hstep
      clear hstep
      generalize cols M k = C at hB hCl HSTEP
      have G0 := (col_get C k 0 (by omega)).symm
      have F0 : wr.cell? ⟨gb, k, none⟩ = some (.int .u32 (n32 ((col C k).getD 0 0))) := (hB.cell _).trans (col_cell0 C k hCl hk4)
      have G1 := (col_get C k 1 (by omega)).symm
      have F1 : wr.cell? ⟨gb, 4 + k, none⟩ = some (.int .u32 (n32 ((col C k).getD 1 0))) := (hB.cell _).trans (col_cell C k 1 hCl hk4 (by omega))
      have G2 := (col_get C k 2 (by omega)).symm
      have F2 : wr.cell? ⟨gb, 8 + k, none⟩ = some (.int .u32 (n32 ((col C k).getD 2 0))) := (hB.cell _).trans (col_cell C k 2 hCl hk4 (by omega))
      have G3 := (col_get C k 3 (by omega)).symm
      have F3 : wr.cell? ⟨gb, 12 + k, none⟩ = some (.int .u32 (n32 ((col C k).getD 3 0))) := (hB.cell _).trans (col_cell C k 3 hCl hk4 (by omega))
      have G4 := (col_get C k 4 (by omega)).symm
      have F4 : wr.cell? ⟨gb, 16 + k, none⟩ = some (.int .u32 (n32 ((col C k).getD 4 0))) := (hB.cell _).trans (col_cell C k 4 hCl hk4 (by omega))
      have G5 := (col_get C k 5 (by omega)).symm
      have F5 : wr.cell? ⟨gb, 20 + k, none⟩ = some (.int .u32 (n32 ((col C k).getD 5 0))) := (hB.cell _).trans (col_cell C k 5 hCl hk4 (by omega))
      have G6 := (col_get C k 6 (by omega)).symm
      have F6 : wr.cell? ⟨gb, 24 + k, none⟩ = some (.int .u32 (n32 ((col C k).getD 6 0))) := (hB.cell _).trans (col_cell C k 6 hCl hk4 (by omega))
      have G7 := (col_get C k 7 (by omega)).symm
      have F7 : wr.cell? ⟨gb, 28 + k, none⟩ = some (.int .u32 (n32 ((col C k).getD 7 0))) := (hB.cell _).trans (col_cell C k 7 hCl hk4 (by omega))
      have G8 := (col_get C k 8 (by omega)).symm
      have F8 : wr.cell? ⟨gb, 32 + k, none⟩ = some (.int .u32 (n32 ((col C k).getD 8 0))) := (hB.cell _).trans (col_cell C k 8 hCl hk4 (by omega))
      have G9 := (col_get C k 9 (by omega)).symm
      have F9 : wr.cell? ⟨gb, 36 + k, none⟩ = some (.int .u32 (n32 ((col C k).getD 9 0))) := (hB.cell _).trans (col_cell C k 9 hCl hk4 (by omega))
      have G10 := (col_get C k 10 (by omega)).symm
      have F10 : wr.cell? ⟨gb, 40 + k, none⟩ = some (.int .u32 (n32 ((col C k).getD 10 0))) := (hB.cell _).trans (col_cell C k 10 hCl hk4 (by omega))
      have G11 := (col_get C k 11 (by omega)).symm
      have F11 : wr.cell? ⟨gb, 44 + k, none⟩ = some (.int .u32 (n32 ((col C k).getD 11 0))) := (hB.cell _).trans (col_cell C k 11 hCl hk4 (by omega))
      have G12 := (col_get C k 12 (by omega)).symm
      have F12 : wr.cell? ⟨gb, 48 + k, none⟩ = some (.int .u32 (n32 ((col C k).getD 12 0))) := (hB.cell _).trans (col_cell C k 12 hCl hk4 (by omega))
      have G13 := (col_get C k 13 (by omega)).symm
      have F13 : wr.cell? ⟨gb, 52 + k, none⟩ = some (.int .u32 (n32 ((col C k).getD 13 0))) := (hB.cell _).trans (col_cell C k 13 hCl hk4 (by omega))
      have G14 := (col_get C k 14 (by omega)).symm
      have F14 : wr.cell? ⟨gb, 56 + k, none⟩ = some (.int .u32 (n32 ((col C k).getD 14 0))) := (hB.cell _).trans (col_cell C k 14 hCl hk4 (by omega))
      have G15 := (col_get C k 15 (by omega)).symm
      have F15 : wr.cell? ⟨gb, 60 + k, none⟩ = some (.int .u32 (n32 ((col C k).getD 15 0))) := (hB.cell _).trans (col_cell C k 15 hCl hk4 (by omega))
      have hYl := col_length C k
      generalize col C k = Y at hYl HSTEP G0 F0 G1 F1 G2 F2 G3 F3 G4 F4 G5 F5 G6 F6 G7 F7 G8 F8 G9 F9 G10 F10 G11 F11 G12 F12 G13 F13 G14 F14 G15 F15
      obtain ⟨y0, y1, y2, y3, y4, y5, y6, y7, y8, y9, y10, y11, y12, y13, y14, y15, rfl⟩ := list16 Y hYl
      have f0 : wr.cell? ⟨gb, k, none⟩ = some (.int .u32 (n32 y0)) := F0
      have g0 : C.getD (4 * 0 + k) 0 = y0 := G0
      have H0 := Lib.hid g0
      have f1 : wr.cell? ⟨gb, 4 + k, none⟩ = some (.int .u32 (n32 y1)) := F1
      have g1 : C.getD (4 * 1 + k) 0 = y1 := G1
      have H1 := Lib.hid g1
      have f2 : wr.cell? ⟨gb, 8 + k, none⟩ = some (.int .u32 (n32 y2)) := F2
      have g2 : C.getD (4 * 2 + k) 0 = y2 := G2
      have H2 := Lib.hid g2
      have f3 : wr.cell? ⟨gb, 12 + k, none⟩ = some (.int .u32 (n32 y3)) := F3
      have g3 : C.getD (4 * 3 + k) 0 = y3 := G3
      have H3 := Lib.hid g3
      have f4 : wr.cell? ⟨gb, 16 + k, none⟩ = some (.int .u32 (n32 y4)) := F4
      have g4 : C.getD (4 * 4 + k) 0 = y4 := G4
      have H4 := Lib.hid g4
      have f5 : wr.cell? ⟨gb, 20 + k, none⟩ = some (.int .u32 (n32 y5)) := F5
      have g5 : C.getD (4 * 5 + k) 0 = y5 := G5
      have H5 := Lib.hid g5
      have f6 : wr.cell? ⟨gb, 24 + k, none⟩ = some (.int .u32 (n32 y6)) := F6
      have g6 : C.getD (4 * 6 + k) 0 = y6 := G6
      have H6 := Lib.hid g6
      have f7 : wr.cell? ⟨gb, 28 + k, none⟩ = some (.int .u32 (n32 y7)) := F7
      have g7 : C.getD (4 * 7 + k) 0 = y7 := G7
      have H7 := Lib.hid g7
      have f8 : wr.cell? ⟨gb, 32 + k, none⟩ = some (.int .u32 (n32 y8)) := F8
      have g8 : C.getD (4 * 8 + k) 0 = y8 := G8
      have H8 := Lib.hid g8
      have f9 : wr.cell? ⟨gb, 36 + k, none⟩ = some (.int .u32 (n32 y9)) := F9
      have g9 : C.getD (4 * 9 + k) 0 = y9 := G9
      have H9 := Lib.hid g9
      have f10 : wr.cell? ⟨gb, 40 + k, none⟩ = some (.int .u32 (n32 y10)) := F10
      have g10 : C.getD (4 * 10 + k) 0 = y10 := G10
      have H10 := Lib.hid g10
      have f11 : wr.cell? ⟨gb, 44 + k, none⟩ = some (.int .u32 (n32 y11)) := F11
      have g11 : C.getD (4 * 11 + k) 0 = y11 := G11
      have H11 := Lib.hid g11
      have f12 : wr.cell? ⟨gb, 48 + k, none⟩ = some (.int .u32 (n32 y12)) := F12
      have g12 : C.getD (4 * 12 + k) 0 = y12 := G12
      have H12 := Lib.hid g12
      have f13 : wr.cell? ⟨gb, 52 + k, none⟩ = some (.int .u32 (n32 y13)) := F13
      have g13 : C.getD (4 * 13 + k) 0 = y13 := G13
      have H13 := Lib.hid g13
      have f14 : wr.cell? ⟨gb, 56 + k, none⟩ = some (.int .u32 (n32 y14)) := F14
      have g14 : C.getD (4 * 14 + k) 0 = y14 := G14
      have H14 := Lib.hid g14
      have f15 : wr.cell? ⟨gb, 60 + k, none⟩ = some (.int .u32 (n32 y15)) := F15
      have g15 : C.getD (4 * 15 + k) 0 = y15 := G15
      have H15 := Lib.hid g15
      clear hYl G0 F0 g0 G1 F1 g1 G2 F2 g2 G3 F3 g3 G4 F4 g4 G5 F5 g5 G6 F6 g6 G7 F7 g7 G8 F8 g8 G9 F9 g9 G10 F10 g10 G11 F11 g11 G12 F12 g12 G13 F13 g13 G14 F14 g14 G15 F15 g15
      go_wp2_with fail
      clear f0 f1 f2 f3 f4 f5 f6 f7 f8 f9 f10 f11 f12 f13 f14 f15
      obtain ⟨wo, rfl⟩ : ∃ wo : World, wo = wr := ⟨_, rfl⟩
      go_loopw [8, 9, 10, 11, 12, 13, 14, 15, 16, 17, 18, 19, 20, 21, 22, 23, 24] (fun b0 b1 b2 b3 b4 b5 b6 b7 b8 b9 b10 b11 b12 b13 b14 b15 rd wx => ∃ r : Nat, ∃ x0 x1 x2 x3 x4 x5 x6 x7 x8 x9 x10 x11 x12 x13 x14 x15 : W, r ≤ 4 ∧ rd = .int .i64 (r : Int) ∧ rounds r [y0, y1, y2, y3, y4, y5, y6, y7, y8, y9, y10, y11, y12, y13, y14, y15] = [x0, x1, x2, x3, x4, x5, x6, x7, x8, x9, x10, x11, x12, x13, x14, x15] ∧ b0 = .int .u32 (n32 x0) ∧ b1 = .int .u32 (n32 x1) ∧ b2 = .int .u32 (n32 x2) ∧ b3 = .int .u32 (n32 x3) ∧ b4 = .int .u32 (n32 x4) ∧ b5 = .int .u32 (n32 x5) ∧ b6 = .int .u32 (n32 x6) ∧ b7 = .int .u32 (n32 x7) ∧ b8 = .int .u32 (n32 x8) ∧ b9 = .int .u32 (n32 x9) ∧ b10 = .int .u32 (n32 x10) ∧ b11 = .int .u32 (n32 x11) ∧ b12 = .int .u32 (n32 x12) ∧ b13 = .int .u32 (n32 x13) ∧ b14 = .int .u32 (n32 x14) ∧ b15 = .int .u32 (n32 x15) ∧ wo = wx) (fun _ _ _ _ _ _ _ _ _ _ _ _ _ _ _ _ rd _ => 4 - (intOf rd).toNat)
      case atStart => exact ⟨0, y0, y1, y2, y3, y4, y5, y6, y7, y8, y9, y10, y11, y12, y13, y14, y15, Nat.zero_le _, rfl, rfl, rfl, rfl, rfl, rfl, rfl, rfl, rfl, rfl, rfl, rfl, rfl, rfl, rfl, rfl, rfl, rfl, rfl⟩
      case round =>
        obtain ⟨r, x0, x1, x2, x3, x4, x5, x6, x7, x8, x9, x10, x11, x12, x13, x14, x15, hr, rfl, hx, rfl, rfl, rfl, rfl, rfl, rfl, rfl, rfl, rfl, rfl, rfl, rfl, rfl, rfl, rfl, rfl, rfl⟩ := hrel
        by_cases hr4 : r < 4
        · as_aux_lemma =>
          have hr' : (r : Int) < 4 := by omega
          have HX := Lib.hid hx
          clear hx hB hbel H0 H1 H2 H3 H4 H5 H6 H7 H8 H9 H10 H11 H12 H13 H14 H15
          go_wp2_with (go_at_call 60; refine (qr_any _ _ _ _ _).mono ?_; rintro e w' ⟨rfl, rfl⟩)
          go_roundw
          case rel => exact ⟨r + 1, _, _, _, _, _, _, _, _, _, _, _, _, _, _, _, _, by omega, by go_num, (by show dbl (rounds r _) = _; rw [HX.out]; unfold dbl; rw [at4_0, at4_1, at4_2, at4_3, at4_4, at4_5, at4_6, at4_7]), rfl, rfl, rfl, rfl, rfl, rfl, rfl, rfl, rfl, rfl, rfl, rfl, rfl, rfl, rfl, rfl, by first | rfl | trivial⟩
          case measure => simp [intOf]; omega
        · as_aux_lemma =>
          have hr' : (4 : Int) ≤ (r : Int) := by omega
          have hr4' : r = 4 := by omega
          rw [hr4'] at hx
          have hN : fin [y0, y1, y2, y3, y4, y5, y6, y7, y8, y9, y10, y11, y12, y13, y14, y15] = [x0, x1, x2, x3, y4 + x4, y5 + x5, y6 + x6, y7 + x7, y8 + x8, y9 + x9, y10 + x10, y11 + x11, x12, x13, x14, x15] := by show addMid (rounds 4 _) _ = _; rw [hx]; rfl
          have hst := HSTEP.out
          rw [hN] at hst
          generalize hNg : ([x0, x1, x2, x3, y4 + x4, y5 + x5, y6 + x6, y7 + x7, y8 + x8, y9 + x9, y10 + x10, y11 + x11, x12, x13, x14, x15] : List W) = N at hst
          have n0 : N.getD 0 0 = x0 := by rw [← hNg]; rfl
          have n1 : N.getD 1 0 = x1 := by rw [← hNg]; rfl
          have n2 : N.getD 2 0 = x2 := by rw [← hNg]; rfl
          have n3 : N.getD 3 0 = x3 := by rw [← hNg]; rfl
          have n4 : N.getD 4 0 = y4 + x4 := by rw [← hNg]; rfl
          have n5 : N.getD 5 0 = y5 + x5 := by rw [← hNg]; rfl
          have n6 : N.getD 6 0 = y6 + x6 := by rw [← hNg]; rfl
          have n7 : N.getD 7 0 = y7 + x7 := by rw [← hNg]; rfl
          have n8 : N.getD 8 0 = y8 + x8 := by rw [← hNg]; rfl
          have n9 : N.getD 9 0 = y9 + x9 := by rw [← hNg]; rfl
          have n10 : N.getD 10 0 = y10 + x10 := by rw [← hNg]; rfl
          have n11 : N.getD 11 0 = y11 + x11 := by rw [← hNg]; rfl
          have n12 : N.getD 12 0 = x12 := by rw [← hNg]; rfl
          have n13 : N.getD 13 0 = x13 := by rw [← hNg]; rfl
          have n14 : N.getD 14 0 = x14 := by rw [← hNg]; rfl
          have n15 : N.getD 15 0 = x15 := by rw [← hNg]; rfl
          have N0 := Lib.hid n0
          have N1 := Lib.hid n1
          have N2 := Lib.hid n2
          have N3 := Lib.hid n3
          have N4 := Lib.hid n4
          have N5 := Lib.hid n5
          have N6 := Lib.hid n6
          have N7 := Lib.hid n7
          have N8 := Lib.hid n8
          have N9 := Lib.hid n9
          have N10 := Lib.hid n10
          have N11 := Lib.hid n11
          have N12 := Lib.hid n12
          have N13 := Lib.hid n13
          have N14 := Lib.hid n14
          have N15 := Lib.hid n15
          have HST := Lib.hid hst
          clear hN hx HSTEP hr hst hNg n0 n1 n2 n3 n4 n5 n6 n7 n8 n9 n10 n11 n12 n13 n14 n15
          rw [← upd_zero C N k hCl] at hB
          have hB0 := hB
          have e0 := hbel
          clear hB hbel
          go_wp2_with (first
            | (refine wpList_store_one rfl 22 _ _ rfl gb (k) rfl hB0 (.int .u32 (n32 (x0))) rfl (by rw [w32s_length, upd_length]; omega) rfl (by kernel_rfl) ?_; intro w101 hS1 hO1; (try go_frame); have hB1 : B w101 gb 51 (w32s (upd C N k 1)) := (by rw [← upd_row0 C N k hk4, N0.out]; exact hS1); have e1 := e0.trans (hO1.below _ hgb); clear hS1 hO1 hB0 e0)
            | (refine wpList_store_one rfl 22 _ _ rfl gb (4 + k) rfl hB1 (.int .u32 (n32 (x1))) rfl (by rw [w32s_length, upd_length]; omega) rfl (by kernel_rfl) ?_; intro w102 hS2 hO2; (try go_frame); have hB2 : B w102 gb 51 (w32s (upd C N k 2)) := (by rw [← upd_row C N k 1 hk4 (by omega), N1.out]; exact hS2); have e2 := e1.trans (hO2.below _ hgb); clear hS2 hO2 hB1 e1)
            | (refine wpList_store_one rfl 22 _ _ rfl gb (8 + k) rfl hB2 (.int .u32 (n32 (x2))) rfl (by rw [w32s_length, upd_length]; omega) rfl (by kernel_rfl) ?_; intro w103 hS3 hO3; (try go_frame); have hB3 : B w103 gb 51 (w32s (upd C N k 3)) := (by rw [← upd_row C N k 2 hk4 (by omega), N2.out]; exact hS3); have e3 := e2.trans (hO3.below _ hgb); clear hS3 hO3 hB2 e2)
            | (refine wpList_store_one rfl 22 _ _ rfl gb (12 + k) rfl hB3 (.int .u32 (n32 (x3))) rfl (by rw [w32s_length, upd_length]; omega) rfl (by kernel_rfl) ?_; intro w104 hS4 hO4; (try go_frame); have hB4 : B w104 gb 51 (w32s (upd C N k 4)) := (by rw [← upd_row C N k 3 hk4 (by omega), N3.out]; exact hS4); have e4 := e3.trans (hO4.below _ hgb); clear hS4 hO4 hB3 e3))
          as_aux_lemma =>
            have f : w104.cell? ⟨gb, 16 + k, none⟩ = some (.int .u32 (n32 y4)) := (hB4.cell _).trans ((upd_cell C N k 4 hk4 (by omega)).trans (by rw [H4.out]))
            go_still_tail 11, (by kernel_rfl)
            change wpList _ _ _ _ _ w104.drew
            replace hB4 := hB4.drew
            replace e4 : Below w.heap.size w w104.drew := below_drewN e4 1
            clear f
            generalize w104.drew = v4 at hB4 e4 ⊢
            go_wp2_with (first
              | (refine wpList_store_one rfl 22 _ _ rfl gb (16 + k) rfl hB4 (.int .u32 (n32 (y4 + x4))) rfl (by rw [w32s_length, upd_length]; omega) rfl (by kernel_rfl) ?_; intro w105 hS5 hO5; (try go_frame); have hB5 : B w105 gb 51 (w32s (upd C N k 5)) := (by rw [← upd_row C N k 4 hk4 (by omega), N4.out]; exact hS5); have e5 := e4.trans (hO5.below _ hgb); clear hS5 hO5 hB4 e4))
            have f : w105.cell? ⟨gb, 20 + k, none⟩ = some (.int .u32 (n32 y5)) := (hB5.cell _).trans ((upd_cell C N k 5 hk4 (by omega)).trans (by rw [H5.out]))
            go_still_tail 11, (by kernel_rfl)
            change wpList _ _ _ _ _ w105.drew
            replace hB5 := hB5.drew
            replace e5 : Below w.heap.size w w105.drew := below_drewN e5 1
            clear f
            generalize w105.drew = v5 at hB5 e5 ⊢
            go_wp2_with (first
              | (refine wpList_store_one rfl 22 _ _ rfl gb (20 + k) rfl hB5 (.int .u32 (n32 (y5 + x5))) rfl (by rw [w32s_length, upd_length]; omega) rfl (by kernel_rfl) ?_; intro w106 hS6 hO6; (try go_frame); have hB6 : B w106 gb 51 (w32s (upd C N k 6)) := (by rw [← upd_row C N k 5 hk4 (by omega), N5.out]; exact hS6); have e6 := e5.trans (hO6.below _ hgb); clear hS6 hO6 hB5 e5))
            as_aux_lemma =>
              have f : w106.cell? ⟨gb, 24 + k, none⟩ = some (.int .u32 (n32 y6)) := (hB6.cell _).trans ((upd_cell C N k 6 hk4 (by omega)).trans (by rw [H6.out]))
              go_still_tail 11, (by kernel_rfl)
              change wpList _ _ _ _ _ w106.drew
              replace hB6 := hB6.drew
              replace e6 : Below w.heap.size w w106.drew := below_drewN e6 1
              clear f
              generalize w106.drew = v6 at hB6 e6 ⊢
              go_wp2_with (first
                | (refine wpList_store_one rfl 22 _ _ rfl gb (24 + k) rfl hB6 (.int .u32 (n32 (y6 + x6))) rfl (by rw [w32s_length, upd_length]; omega) rfl (by kernel_rfl) ?_; intro w107 hS7 hO7; (try go_frame); have hB7 : B w107 gb 51 (w32s (upd C N k 7)) := (by rw [← upd_row C N k 6 hk4 (by omega), N6.out]; exact hS7); have e7 := e6.trans (hO7.below _ hgb); clear hS7 hO7 hB6 e6))
              have f : w107.cell? ⟨gb, 28 + k, none⟩ = some (.int .u32 (n32 y7)) := (hB7.cell _).trans ((upd_cell C N k 7 hk4 (by omega)).trans (by rw [H7.out]))
              go_still_tail 11, (by kernel_rfl)
              change wpList _ _ _ _ _ w107.drew
              replace hB7 := hB7.drew
              replace e7 : Below w.heap.size w w107.drew := below_drewN e7 1
              clear f
              generalize w107.drew = v7 at hB7 e7 ⊢
              go_wp2_with (first
                | (refine wpList_store_one rfl 22 _ _ rfl gb (28 + k) rfl hB7 (.int .u32 (n32 (y7 + x7))) rfl (by rw [w32s_length, upd_length]; omega) rfl (by kernel_rfl) ?_; intro w108 hS8 hO8; (try go_frame); have hB8 : B w108 gb 51 (w32s (upd C N k 8)) := (by rw [← upd_row C N k 7 hk4 (by omega), N7.out]; exact hS8); have e8 := e7.trans (hO8.below _ hgb); clear hS8 hO8 hB7 e7))
              as_aux_lemma =>
                have f : w108.cell? ⟨gb, 32 + k, none⟩ = some (.int .u32 (n32 y8)) := (hB8.cell _).trans ((upd_cell C N k 8 hk4 (by omega)).trans (by rw [H8.out]))
                go_still_tail 11, (by kernel_rfl)
                change wpList _ _ _ _ _ w108.drew
                replace hB8 := hB8.drew
                replace e8 : Below w.heap.size w w108.drew := below_drewN e8 1
                clear f
                generalize w108.drew = v8 at hB8 e8 ⊢
                go_wp2_with (first
                  | (refine wpList_store_one rfl 22 _ _ rfl gb (32 + k) rfl hB8 (.int .u32 (n32 (y8 + x8))) rfl (by rw [w32s_length, upd_length]; omega) rfl (by kernel_rfl) ?_; intro w109 hS9 hO9; (try go_frame); have hB9 : B w109 gb 51 (w32s (upd C N k 9)) := (by rw [← upd_row C N k 8 hk4 (by omega), N8.out]; exact hS9); have e9 := e8.trans (hO9.below _ hgb); clear hS9 hO9 hB8 e8))
                have f : w109.cell? ⟨gb, 36 + k, none⟩ = some (.int .u32 (n32 y9)) := (hB9.cell _).trans ((upd_cell C N k 9 hk4 (by omega)).trans (by rw [H9.out]))
                go_still_tail 11, (by kernel_rfl)
                change wpList _ _ _ _ _ w109.drew
                replace hB9 := hB9.drew
                replace e9 : Below w.heap.size w w109.drew := below_drewN e9 1
                clear f
                generalize w109.drew = v9 at hB9 e9 ⊢
                go_wp2_with (first
                  | (refine wpList_store_one rfl 22 _ _ rfl gb (36 + k) rfl hB9 (.int .u32 (n32 (y9 + x9))) rfl (by rw [w32s_length, upd_length]; omega) rfl (by kernel_rfl) ?_; intro w110 hS10 hO10; (try go_frame); have hB10 : B w110 gb 51 (w32s (upd C N k 10)) := (by rw [← upd_row C N k 9 hk4 (by omega), N9.out]; exact hS10); have e10 := e9.trans (hO10.below _ hgb); clear hS10 hO10 hB9 e9))
                as_aux_lemma =>
                  have f : w110.cell? ⟨gb, 40 + k, none⟩ = some (.int .u32 (n32 y10)) := (hB10.cell _).trans ((upd_cell C N k 10 hk4 (by omega)).trans (by rw [H10.out]))
                  go_still_tail 11, (by kernel_rfl)
                  change wpList _ _ _ _ _ w110.drew
                  replace hB10 := hB10.drew
                  replace e10 : Below w.heap.size w w110.drew := below_drewN e10 1
                  clear f
                  generalize w110.drew = v10 at hB10 e10 ⊢
                  go_wp2_with (first
                    | (refine wpList_store_one rfl 22 _ _ rfl gb (40 + k) rfl hB10 (.int .u32 (n32 (y10 + x10))) rfl (by rw [w32s_length, upd_length]; omega) rfl (by kernel_rfl) ?_; intro w111 hS11 hO11; (try go_frame); have hB11 : B w111 gb 51 (w32s (upd C N k 11)) := (by rw [← upd_row C N k 10 hk4 (by omega), N10.out]; exact hS11); have e11 := e10.trans (hO11.below _ hgb); clear hS11 hO11 hB10 e10))
                  have f : w111.cell? ⟨gb, 44 + k, none⟩ = some (.int .u32 (n32 y11)) := (hB11.cell _).trans ((upd_cell C N k 11 hk4 (by omega)).trans (by rw [H11.out]))
                  go_still_tail 11, (by kernel_rfl)
                  change wpList _ _ _ _ _ w111.drew
                  replace hB11 := hB11.drew
                  replace e11 : Below w.heap.size w w111.drew := below_drewN e11 1
                  clear f
                  generalize w111.drew = v11 at hB11 e11 ⊢
                  go_wp2_with (first
                    | (refine wpList_store_one rfl 22 _ _ rfl gb (44 + k) rfl hB11 (.int .u32 (n32 (y11 + x11))) rfl (by rw [w32s_length, upd_length]; omega) rfl (by kernel_rfl) ?_; intro w112 hS12 hO12; (try go_frame); have hB12 : B w112 gb 51 (w32s (upd C N k 12)) := (by rw [← upd_row C N k 11 hk4 (by omega), N11.out]; exact hS12); have e12 := e11.trans (hO12.below _ hgb); clear hS12 hO12 hB11 e11)
                    | (refine wpList_store_one rfl 22 _ _ rfl gb (48 + k) rfl hB12 (.int .u32 (n32 (x12))) rfl (by rw [w32s_length, upd_length]; omega) rfl (by kernel_rfl) ?_; intro w113 hS13 hO13; (try go_frame); have hB13 : B w113 gb 51 (w32s (upd C N k 13)) := (by rw [← upd_row C N k 12 hk4 (by omega), N12.out]; exact hS13); have e13 := e12.trans (hO13.below _ hgb); clear hS13 hO13 hB12 e12)
                    | (refine wpList_store_one rfl 22 _ _ rfl gb (52 + k) rfl hB13 (.int .u32 (n32 (x13))) rfl (by rw [w32s_length, upd_length]; omega) rfl (by kernel_rfl) ?_; intro w114 hS14 hO14; (try go_frame); have hB14 : B w114 gb 51 (w32s (upd C N k 14)) := (by rw [← upd_row C N k 13 hk4 (by omega), N13.out]; exact hS14); have e14 := e13.trans (hO14.below _ hgb); clear hS14 hO14 hB13 e13)
                    | (refine wpList_store_one rfl 22 _ _ rfl gb (56 + k) rfl hB14 (.int .u32 (n32 (x14))) rfl (by rw [w32s_length, upd_length]; omega) rfl (by kernel_rfl) ?_; intro w115 hS15 hO15; (try go_frame); have hB15 : B w115 gb 51 (w32s (upd C N k 15)) := (by rw [← upd_row C N k 14 hk4 (by omega), N14.out]; exact hS15); have e15 := e14.trans (hO15.below _ hgb); clear hS15 hO15 hB14 e14)
                    | (refine wpList_store_one rfl 22 _ _ rfl gb (60 + k) rfl hB15 (.int .u32 (n32 (x15))) rfl (by rw [w32s_length, upd_length]; omega) rfl (by kernel_rfl) ?_; intro w116 hS16 hO16; (try go_frame); have hB16 : B w116 gb 51 (w32s (upd C N k 16)) := (by rw [← upd_row C N k 15 hk4 (by omega), N15.out]; exact hS16); have e16 := e15.trans (hO16.below _ hgb); clear hS16 hO16 hB15 e15))
                  go_roundw
                  case rel => exact ⟨k + 1, by omega, by go_num, (by rw [← HST.out]; exact hB16), e16⟩
                  case measure => simp [intOf]; omega
    · as_aux_lemma =>
        have hk' : (4 : Int) ≤ (k : Int) := by omega
        have hk4' : k = 4 := by omega
        have hB4 : B wr gb 51 (w32s (cols M 4)) := by rw [hk4'] at hB; exact hB
        have hD4 : B wr gd T l := hD.below hbel hgd
        have hp4 : Past gd w wr := Past.of_below hbel
        have hNl := cols_length M 4
        have hbl := HBL.out
        have hpt := pairs_two (cols M 4)
        rw [← hbl] at hpt
        have hRl : R.length = 32 := by rw [hbl, pairs_length]
        have HRL := Lib.hid hRl
        have HPT := Lib.hid hpt
        have HNL := Lib.hid hNl
        generalize cols M 4 = N at hB4 HPT HNL
        have hD0 : B wr gd T (u64s (R.take (2 * 0)) ++ l.drop (2 * 0)) := hD4
        have ngd : gb ≠ gd := by omega
        clear hB hD hD4 hbel HBL HM hk4' hbl hpt hNl hRl hk4
        go_wp2_with fail
        obtain ⟨wo, rfl⟩ : ∃ wo : World, wo = wr := ⟨_, rfl⟩
        go_loopw [351, 25] (fun i _ wr => ∃ i' : Nat, i' ≤ 16 ∧ i = .int .i64 (i' : Int) ∧ B wr gb 51 (w32s N) ∧ B wr gd T (u64s (R.take (2 * i')) ++ l.drop (2 * i')) ∧ Past gd w wr) (fun i _ _ => 16 - (intOf i).toNat)
        case atStart => exact ⟨0, Nat.zero_le _, rfl, hB4, hD0, hp4⟩
        case round =>
          clear hB4 hD0 hp4
          obtain ⟨i, hi, rfl, hB, hD, hp⟩ := hrel
          by_cases hi16 : i < 16
          · have hi' : (i : Int) < 16 := by omega
            have i0 : (0 : Int) ≤ 2 * (i : Int) := by omega
            have i1 : 2 * (i : Int) < 32 := by omega
            have hw0 : IntKind.i64.wrap (2 * (i : Int)) = 2 * (i : Int) := by rw [IntKind.wrap_i64]; omega
            have hw1 : IntKind.i64.wrap (2 * (i : Int) + 1) = 2 * (i : Int) + 1 := by rw [IntKind.wrap_i64]; omega
            have i2 : (0 : Int) ≤ 2 * (i : Int) + 1 := by omega
            have i3 : 2 * (i : Int) + 1 < 32 := by omega
            obtain ⟨e0, e1⟩ := HPT.out i hi16
            have f0 : wr.cell? ⟨gb, i * 4, none⟩ = some (.int .u32 (n32 (N.getD (4 * i) 0))) := by rw [Nat.mul_comm i 4]; exact (hB.cell _).trans (w32s_get N _ (by rw [HNL.out]; omega))
            have f1 : wr.cell? ⟨gb, i * 4 + 1, none⟩ = some (.int .u32 (n32 (N.getD (4 * i + 1) 0))) := by rw [Nat.mul_comm i 4]; exact (hB.cell _).trans (w32s_get N _ (by rw [HNL.out]; omega))
            have f2 : wr.cell? ⟨gb, i * 4 + 2, none⟩ = some (.int .u32 (n32 (N.getD (4 * i + 2) 0))) := by rw [Nat.mul_comm i 4]; exact (hB.cell _).trans (w32s_get N _ (by rw [HNL.out]; omega))
            have f3 : wr.cell? ⟨gb, i * 4 + 3, none⟩ = some (.int .u32 (n32 (N.getD (4 * i + 3) 0))) := by rw [Nat.mul_comm i 4]; exact (hB.cell _).trans (w32s_get N _ (by rw [HNL.out]; omega))
            generalize N.getD (4 * i) 0 = x0 at e0 f0
            generalize N.getD (4 * i + 1) 0 = x1 at e0 f1
            generalize N.getD (4 * i + 2) 0 = x2 at e1 f2
            generalize N.getD (4 * i + 3) 0 = x3 at e1 f3
            have st0 := fill_set R l (2 * i) _ (by rw [HRL.out]; omega) (by omega) e0
            have st1 := fill_set R l (2 * i + 1) _ (by rw [HRL.out]; omega) (by omega) e1
            have hlA : 2 * i < (u64s (R.take (2 * i)) ++ l.drop (2 * i)).length := by rw [List.length_append, u64s_length, List.length_take, List.length_drop, HRL.out]; omega
            have hlB : 2 * i + 1 < (u64s (R.take (2 * i + 1)) ++ l.drop (2 * i + 1)).length := by rw [List.length_append, u64s_length, List.length_take, List.length_drop, HRL.out]; omega
            have HA := Lib.hid hlA
            have HB := Lib.hid hlB
            have ST0 := Lib.hid st0
            have ST1 := Lib.hid st1
            clear e0 e1 st0 st1 hlA hlB
            go_wp2_with fail
            go_still_tail 21, (by kernel_rfl)
            change wpList _ _ _ _ _ wr.drew
            replace hB := hB.drew
            replace hD := hD.drew
            replace hp : Past gd w wr.drew := hp.drewN 1
            replace f2 : wr.drew.cell? ⟨gb, i * 4 + 2, none⟩ = some (.int .u32 (n32 x2)) := f2
            replace f3 : wr.drew.cell? ⟨gb, i * 4 + 3, none⟩ = some (.int .u32 (n32 x3)) := f3
            clear f0 f1
            generalize wr.drew = v at hB hD hp f2 f3 ⊢
            go_wp2_with (refine wpList_store_one rfl 29 _ _ rfl gd (2 * i) rfl hD (.int .u64 (n64 (two x0 x1))) rfl HA.out rfl (by kernel_rfl) ?_; intro w8 hD8 hO8; (try go_frame); have hD9 : B w8 gd T (u64s (R.take (2 * i + 1)) ++ l.drop (2 * i + 1)) := (by rw [← ST0.out]; exact hD8); have g2 : w8.cell? ⟨gb, i * 4 + 2, none⟩ = some (.int .u32 (n32 x2)) := (World.cell?_of_block (hO8.block gb ngd)).trans f2; have g3 : w8.cell? ⟨gb, i * 4 + 3, none⟩ = some (.int .u32 (n32 x3)) := (World.cell?_of_block (hO8.block gb ngd)).trans f3; have hB8 := hB.only hO8 ngd; have hp8 := hp.only hO8; clear hD8 f2 f3 hB hp hO8)
            go_still_tail 22, (by kernel_rfl)
            change wpList _ _ _ _ _ w8.drew
            replace hB8 := hB8.drew
            replace hD9 := hD9.drew
            replace hp8 : Past gd w w8.drew := hp8.drewN 1
            clear g2 g3
            generalize w8.drew = v8 at hB8 hD9 hp8 ⊢
            go_wp2_with (refine wpList_store_one rfl 29 _ _ rfl gd (2 * i + 1) rfl hD9 (.int .u64 (n64 (two x2 x3))) rfl HB.out rfl (by kernel_rfl) ?_; intro w9 hDa hOa; (try go_frame))
            go_roundw
            case rel => exact ⟨i + 1, by omega, by go_num, hB8.only hOa ngd, (by rw [show 2 * (i + 1) = 2 * i + 1 + 1 by omega, ← ST1.out]; exact hDa), hp8.only hOa⟩
            case measure => simp [intOf]; omega
          · have hi' : (16 : Int) ≤ (i : Int) := by omega
            have hi16' : i = 16 := by omega
            have hD' : B wr gd T (u64s R ++ l.drop 32) := by
              rw [hi16', List.take_of_length_le (by rw [HRL.out]; omega)] at hD
              exact hD
            clear hi16' hD
            go_wp2
            go_end0
            exact ⟨rfl, (by rw [HRES.out]; exact hD'), hp⟩
end Go.Proofs.Ytjhpffenlhfilaa.Ch
