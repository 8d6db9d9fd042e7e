/- The walks of the generator's Init64, Next, Refill. -/
import Derived.Test.YtjhpffenlhfilaaWBlkC
import Derived.Test.YtjhpffenlhfilaaSt
import Derived.StillTailTactics
namespace Go.Proofs.Ytjhpffenlhfilaa.Ch
open Go.RowKit Mem

set_option maxRecDepth 100000 in
set_option maxHeartbeats 2000000 in
theorem init64_any (hb : BlockC) (g : Nat) (A : List Value) (hA : A.length = 32) (a0 a1 a2 a3 a4 a5 a6 : Value) (s0 s1 s2 s3 : V) (w : World) (hB : B w g 68 (st A a0 a1 a2 a3 a4 a5 a6)) :
    Calls Try.prog 41 #[.pointer (some ⟨g, 0, none⟩), .agg (u64s [s0, s1, s2, s3]).toArray] w fun e w' =>
      e = .returned (.tuple #[]) ∧ B w' g 68 (seeded s0 s1 s2 s3).cells ∧ Past g w w' := by
  have hglt := hB.lt
  have hl := st_length hA a0 a1 a2 a3 a4 a5 a6
  have hsd := st_seed hA a0 a1 a2 a3 a4 a5 a6 (.int .u64 (n64 s0)) (.int .u64 (n64 s1)) (.int .u64 (n64 s2)) (.int .u64 (n64 s3))
  have h39 := Lib.hid hl
  have HSD := Lib.hid hsd
  clear hl hsd
  go_enter Try.func41, Try.ntmps41
  go_wp2_with (first
    | (refine wpList_box rfl 30 _ rfl _ (u64s [s0, s1, s2, s3]) rfl rfl ?_; intro gs w1 hgs hlt1 hS1 hb1; (try go_frame); have hB1 := hB.call hb1; have hgs' := hgs)
    | (refine wpList_load_all rfl 30 _ rfl gs rfl hS1 Try.underlying30 rfl (by kernel_rfl) ?_)
    | (refine wpList_store_part rfl 30 _ _ rfl g 32 rfl hB1 (u64s [s0, s1, s2, s3]) rfl (by rw [h39.out]; show 36 ≤ 39; omega) (u64s_one _) (by kernel_rfl) ?_; intro w2 hB2 hO2; (try go_frame); have hB2' : B w2 g 68 (st A (.int .u64 (n64 s0)) (.int .u64 (n64 s1)) (.int .u64 (n64 s2)) (.int .u64 (n64 s3)) a4 a5 a6) := (by rw [← HSD.out]; exact hB2)))
  have b2 : Past g w w2 := ((Past.of_below hb1).only hO2)
  clear hB hB1 hB2 hS1 hb1 hO2 hgs hlt1 hgs'
  have hz : n32 (0 : W) = 0 := rfl
  have cB := pubBlock_any hb g 32 g 68 _ s0 s1 s2 s3 0 w2.drew hB2'.lt (by rw [st_length hA]; omega)
    ((hB2'.cell 32).trans (st_get32 hA _ _ _ _ _ _ _)) ((hB2'.cell 33).trans (st_get33 hA _ _ _ _ _ _ _)) ((hB2'.cell 34).trans (st_get34 hA _ _ _ _ _ _ _)) ((hB2'.cell 35).trans (st_get35 hA _ _ _ _ _ _ _)) hB2'
  rw [hz, st_buf hA] at cB
  have hL : (u64s (blockL s0 s1 s2 s3 0)).length = 32 := by rw [u64s_length, blockL_length]
  have hres : (seeded s0 s1 s2 s3).cells = st (u64s (blockL s0 s1 s2 s3 0)) (.int .u64 (n64 s0)) (.int .u64 (n64 s1)) (.int .u64 (n64 s2)) (.int .u64 (n64 s3)) (.int .u32 0) (.int .u32 32) (.int .u32 0) := rfl
  have HRES := Lib.hid hres
  clear hres
  generalize u64s (blockL s0 s1 s2 s3 0) = R at cB hL HRES
  have c38 := st_set38 hL (.int .u64 (n64 s0)) (.int .u64 (n64 s1)) (.int .u64 (n64 s2)) (.int .u64 (n64 s3)) a4 a5 a6 (.int .u32 0)
  have c36 := st_set36 hL (.int .u64 (n64 s0)) (.int .u64 (n64 s1)) (.int .u64 (n64 s2)) (.int .u64 (n64 s3)) a4 a5 (.int .u32 0) (.int .u32 0)
  have c37 := st_set37 hL (.int .u64 (n64 s0)) (.int .u64 (n64 s1)) (.int .u64 (n64 s2)) (.int .u64 (n64 s3)) (.int .u32 0) a5 (.int .u32 0) (.int .u32 32)
  have C38 := Lib.hid c38
  have C36 := Lib.hid c36
  have C37 := Lib.hid c37
  have HL := Lib.hid hL
  clear c38 c36 c37 hL
  go_still_tail 6, (by kernel_rfl)
  change wpList _ _ _ _ _ w2.drew
  have b3 : Past g w w2.drew := b2.drewN 1
  clear hB2' b2
  generalize w2.drew = w3 at cB b3 ⊢
  go_wp2_with (first
    | (go_at_call 61; refine cB.mono ?_; rintro e w4 ⟨rfl, hB4, hp4⟩)
    | (refine wpList_store_one rfl 22 _ _ rfl g 38 rfl hB4 (.int .u32 0) rfl (by rw [st_length HL.out]; omega) rfl (by kernel_rfl) ?_; intro w5 hB5 hO5; (try go_frame); rw [C38.out] at hB5)
    | (refine wpList_store_one rfl 22 _ _ rfl g 36 rfl hB5 (.int .u32 0) rfl (by rw [st_length HL.out]; omega) rfl (by kernel_rfl) ?_; intro w6 hB6 hO6; (try go_frame); rw [C36.out] at hB6)
    | (refine wpList_store_one rfl 22 _ _ rfl g 37 rfl hB6 (.int .u32 32) rfl (by rw [st_length HL.out]; omega) rfl (by kernel_rfl) ?_; intro w7 hB7 hO7; (try go_frame); rw [C37.out] at hB7))
  go_end0
  exact ⟨rfl, (by rw [HRES.out]; exact hB7), (((b3.trans hp4).only hO5).only hO6).only hO7⟩

set_option maxRecDepth 100000 in
set_option maxHeartbeats 2000000 in
/-- Next, where there is one. -/
theorem next_some (g : Nat) (x : G) (hi : x.i < x.n) (w : World) (hB : B w g 68 x.cells) :
    Calls Try.prog 42 #[.pointer (some ⟨g, 0, none⟩)] w fun e w' =>
      e = .returned (.tuple #[.int .u64 (n64 x.val), .bool true]) ∧ B w' g 68 x.adv.cells ∧ Only g w w' := by
  have hbl := x.bufs_length
  have hn32 := x.n_le
  have hset : x.cells.set 36 (.int .u32 ((x.i : Int) + 1)) = x.adv.cells := by
    unfold G.cells; rw [st_set36 hbl]; rfl
  have f36 : w.cell? ⟨g, 36, none⟩ = some (.int .u32 (x.i : Int)) := (hB.cell 36).trans (st_get36 hbl _ _ _ _ _ _ _)
  have f37 : w.cell? ⟨g, 37, none⟩ = some (.int .u32 (x.n : Int)) := (hB.cell 37).trans (st_get37 hbl _ _ _ _ _ _ _)
  have hlow : x.adv.cells[x.i]? = some (.int .u64 (n64 x.val)) := (st_low hbl _ _ _ _ _ _ _ _ (by omega)).trans (u64s_get _ _ (by rw [G.buf_length]; omega))
  have hlen : 36 < x.cells.length := by rw [G.cells_length]; omega
  have h31 := and31 x.i (by omega)
  have HSET := Lib.hid hset
  have HLEN := Lib.hid hlen
  have HLOW := Lib.hid hlow
  obtain ⟨i, hiq⟩ : ∃ i, i = x.i := ⟨_, rfl⟩
  obtain ⟨n, hnq⟩ : ∃ n, n = x.n := ⟨_, rfl⟩
  rw [← hiq] at h31 f36 hi HSET HLOW
  rw [← hnq] at f37 hi hn32
  have HIQ := Lib.hid hiq
  clear hiq hnq hset hlen hbl hlow
  generalize x.val = v at HLOW
  have i1 : (i : Int) < (n : Int) := by omega
  have i2 : (i : Int) < 32 := by omega
  have i3 : (n : Int) ≤ 32 := by omega
  have hw1 : IntKind.u32.wrap ((i : Int) + 1) = (i : Int) + 1 := by rw [IntKind.wrap_u32]; omega
  generalize x.cells = L at hB HSET HLEN
  go_enter Try.func42, Try.ntmps42
  go_wp2_with (refine wpList_store_one rfl 22 _ _ rfl g 36 rfl hB (.int .u32 ((i : Int) + 1)) rfl HLEN.out rfl (by kernel_rfl) ?_; intro w5 hB5 hO5; (try go_frame); rw [HSET.out] at hB5; have f0 : w5.cell? ⟨g, i, none⟩ = some (.int .u64 (n64 v)) := (hB5.cell i).trans HLOW.out)
  go_ret2
  exact ⟨rfl, hB5, hO5⟩

set_option maxRecDepth 100000 in
set_option maxHeartbeats 2000000 in
/-- Next, where there is none. -/
theorem next_none (g : Nat) (x : G) (hi : ¬ x.i < x.n) (w : World) (hB : B w g 68 x.cells) :
    Calls Try.prog 42 #[.pointer (some ⟨g, 0, none⟩)] w fun e w' =>
      e = .returned (.tuple #[.int .u64 0, .bool false]) ∧ w = w' := by
  have hbl := x.bufs_length
  have f36 : w.cell? ⟨g, 36, none⟩ = some (.int .u32 (x.i : Int)) := (hB.cell 36).trans (st_get36 hbl _ _ _ _ _ _ _)
  have f37 : w.cell? ⟨g, 37, none⟩ = some (.int .u32 (x.n : Int)) := (hB.cell 37).trans (st_get37 hbl _ _ _ _ _ _ _)
  obtain ⟨i, hiq⟩ : ∃ i, i = x.i := ⟨_, rfl⟩
  obtain ⟨n, hnq⟩ : ∃ n, n = x.n := ⟨_, rfl⟩
  rw [← hiq] at f36 hi
  rw [← hnq] at f37 hi
  have i1 : (n : Int) ≤ (i : Int) := by omega
  clear hiq hnq hbl
  go_enter Try.func42, Try.ntmps42
  go_wp2
  go_ret2
  exact ⟨rfl, rfl⟩

set_option maxRecDepth 100000 in
set_option maxHeartbeats 2000000 in
theorem refill_any (hb : BlockC) (g : Nat) (x : G) (hok : x.ok) (w : World) (hB : B w g 68 x.cells) :
    Calls Try.prog 43 #[.pointer (some ⟨g, 0, none⟩)] w fun e w' =>
      e = .returned (.tuple #[]) ∧ B w' g 68 x.refill.cells ∧ Past g w w' := by
  have hglt := hB.lt
  have hbl := x.bufs_length
  have hg4 := hok.1
  have hb28 : (u64s x.buf)[28]? = some (.int .u64 (n64 (x.buf.getD 28 0))) := u64s_get _ _ (by rw [G.buf_length]; omega)
  have hb29 : (u64s x.buf)[29]? = some (.int .u64 (n64 (x.buf.getD 29 0))) := u64s_get _ _ (by rw [G.buf_length]; omega)
  have hb30 : (u64s x.buf)[30]? = some (.int .u64 (n64 (x.buf.getD 30 0))) := u64s_get _ _ (by rw [G.buf_length]; omega)
  have hb31 : (u64s x.buf)[31]? = some (.int .u64 (n64 (x.buf.getD 31 0))) := u64s_get _ _ (by rw [G.buf_length]; omega)
  obtain ⟨c, hc⟩ : ∃ c, c = 4 * x.g := ⟨_, rfl⟩
  have hB' : B w g 68 (st (u64s x.buf) (.int .u64 (n64 x.s0)) (.int .u64 (n64 x.s1)) (.int .u64 (n64 x.s2)) (.int .u64 (n64 x.s3)) (.int .u32 (x.i : Int)) (.int .u32 (x.n : Int)) (.int .u32 (c : Int))) := by rw [hc]; exact hB
  clear hB
  have f38 : w.cell? ⟨g, 38, none⟩ = some (.int .u32 (c : Int)) := (hB'.cell 38).trans (st_get38 hbl _ _ _ _ _ _ _)
  have hw1 : IntKind.u32.wrap ((c : Int) + 4) = (c : Int) + 4 := by rw [IntKind.wrap_u32]; omega
  have hc0 : (c : Int) ≤ 12 := by omega
  by_cases hg3 : x.g < 3
  · have hc12 : (c : Int) + 4 ≠ 16 := by omega
    have hres : x.refill.cells = st (u64s (blockL x.s0 x.s1 x.s2 x.s3 (BitVec.ofNat 32 (c + 4)))) (.int .u64 (n64 x.s0)) (.int .u64 (n64 x.s1)) (.int .u64 (n64 x.s2)) (.int .u64 (n64 x.s3)) (.int .u32 0) (.int .u32 (if c = 8 then 28 else 32)) (.int .u32 ((c : Int) + 4)) := by
      have h1 : x.refill = { x with g := x.g + 1, i := 0 } := if_pos hg3
      rw [h1]
      unfold G.cells G.buf G.c G.n
      have e1 : 4 * (x.g + 1) = c + 4 := by omega
      have e2 : ((c + 4 : Nat) : Int) = (c : Int) + 4 := by omega
      simp only [e1, e2]
      congr 2
      by_cases h8 : c = 8
      · rw [if_pos h8, if_pos (by omega)]; rfl
      · rw [if_neg h8, if_neg (by omega)]; rfl
    have hn : n32 (BitVec.ofNat 32 (c + 4)) = (c : Int) + 4 := by rw [n32_small _ (by omega)]; omega
    have hL : (u64s (blockL x.s0 x.s1 x.s2 x.s3 (BitVec.ofNat 32 (c + 4)))).length = 32 := by rw [u64s_length, blockL_length]
    have cB := fun w' L i n (hA : List.length L = 32) (h : B w' g 68 (st L (.int .u64 (n64 x.s0)) (.int .u64 (n64 x.s1)) (.int .u64 (n64 x.s2)) (.int .u64 (n64 x.s3)) i n (.int .u32 ((c : Int) + 4)))) =>
      pubBlock_any hb g 32 g 68 _ x.s0 x.s1 x.s2 x.s3 (BitVec.ofNat 32 (c + 4)) w' h.lt (by rw [st_length hA]; omega)
      ((h.cell 32).trans (st_get32 hA _ _ _ _ _ _ _)) ((h.cell 33).trans (st_get33 hA _ _ _ _ _ _ _)) ((h.cell 34).trans (st_get34 hA _ _ _ _ _ _ _)) ((h.cell 35).trans (st_get35 hA _ _ _ _ _ _ _)) h
    have c38 := st_set38 hbl (.int .u64 (n64 x.s0)) (.int .u64 (n64 x.s1)) (.int .u64 (n64 x.s2)) (.int .u64 (n64 x.s3)) (.int .u32 (x.i : Int)) (.int .u32 (x.n : Int)) (.int .u32 (c : Int)) (.int .u32 ((c : Int) + 4))
    have HRES := Lib.hid hres
    have HC := Lib.hid hc
    clear hc
    have HN := Lib.hid hn
    have HBL := Lib.hid hbl
    have C38 := Lib.hid c38
    clear hres hn hb28 hb29 hb30 hb31 c38
    generalize u64s (blockL x.s0 x.s1 x.s2 x.s3 (BitVec.ofNat 32 (c + 4))) = R at cB hL HRES
    have HL := Lib.hid hL
    have CB := Lib.hid cB
    clear hL cB hbl
    have p36 := fun (i n c : Value) (v : Value) => st_set36 HL.out (.int .u64 (n64 x.s0)) (.int .u64 (n64 x.s1)) (.int .u64 (n64 x.s2)) (.int .u64 (n64 x.s3)) i n c v
    have p37 := fun (i n c : Value) (v : Value) => st_set37 HL.out (.int .u64 (n64 x.s0)) (.int .u64 (n64 x.s1)) (.int .u64 (n64 x.s2)) (.int .u64 (n64 x.s3)) i n c v
    have P36 := Lib.hid p36
    have P37 := Lib.hid p37
    clear p36 p37
    go_enter Try.func43, Try.ntmps43
    go_wp2_with (refine wpList_store_one rfl 22 _ _ rfl g 38 rfl hB' (.int .u32 ((c : Int) + 4)) rfl (by rw [st_length HBL.out]; omega) rfl (by kernel_rfl) ?_; intro w1 hB1 hO1; (try go_frame); rw [C38.out] at hB1; have f1 : w1.cell? ⟨g, 38, none⟩ = some (.int .u32 ((c : Int) + 4)) := (hB1.cell 38).trans (st_get38 HBL.out _ _ _ _ _ _ _))
    go_still_tail 10, (by kernel_rfl)
    change wpList _ _ _ _ _ w1.drew
    replace hB1 := hB1.drew
    have hp1 : Past g w w1.drew := (Past.of_only hO1).drewN 1
    clear f1 hO1 f38
    generalize w1.drew = v at hB1 hp1 ⊢
    have cC := CB.out v _ _ _ HBL.out hB1
    rw [HN.out, st_buf HBL.out] at cC
    by_cases h8 : c = 8
    · have h8' : (c : Int) + 4 = 12 := by omega
      rw [h8'] at cC ⊢
      have H8 := Lib.hid h8
      have H8' := Lib.hid h8'
      clear hB1 h8 h8' hc0 hw1
      go_wp2_with (first
        | (go_at_call 61; refine cC.mono ?_; rintro e w4 ⟨rfl, hB4, hp4⟩)
        | (refine wpList_store_one rfl 22 _ _ rfl g 36 rfl hB4 (.int .u32 0) rfl (by rw [st_length HL.out]; omega) rfl (by kernel_rfl) ?_; intro w5 hB5 hO5; (try go_frame); rw [P36.out] at hB5)
        | (refine wpList_store_one rfl 22 _ _ rfl g 37 rfl hB5 (.int .u32 32) rfl (by rw [st_length HL.out]; omega) rfl (by kernel_rfl) ?_; intro w6 hB6 hO6; (try go_frame); rw [P37.out] at hB6; have f6 : w6.cell? ⟨g, 38, none⟩ = some (.int .u32 12) := (hB6.cell 38).trans (st_get38 HL.out _ _ _ _ _ _ _))
        | (refine wpList_store_one rfl 22 _ _ rfl g 37 rfl hB6 (.int .u32 28) rfl (by rw [st_length HL.out]; omega) rfl (by kernel_rfl) ?_; intro w7 hB7 hO7; (try go_frame); rw [P37.out] at hB7))
      go_end0
      refine ⟨rfl, ?_, (((hp1.trans hp4).only hO5).only hO6).only hO7⟩
      rw [HRES.out, if_pos H8.out, H8'.out]
      exact hB7
    · have h8' : (c : Int) + 4 ≠ 12 := by omega
      go_wp2_with (first
        | (go_at_call 61; refine cC.mono ?_; rintro e w4 ⟨rfl, hB4, hp4⟩)
        | (refine wpList_store_one rfl 22 _ _ rfl g 36 rfl hB4 (.int .u32 0) rfl (by rw [st_length HL.out]; omega) rfl (by kernel_rfl) ?_; intro w5 hB5 hO5; (try go_frame); rw [P36.out] at hB5)
        | (refine wpList_store_one rfl 22 _ _ rfl g 37 rfl hB5 (.int .u32 32) rfl (by rw [st_length HL.out]; omega) rfl (by kernel_rfl) ?_; intro w6 hB6 hO6; (try go_frame); rw [P37.out] at hB6; have f6 : w6.cell? ⟨g, 38, none⟩ = some (.int .u32 ((c : Int) + 4)) := (hB6.cell 38).trans (st_get38 HL.out _ _ _ _ _ _ _)))
      go_end0
      refine ⟨rfl, ?_, ((hp1.trans hp4).only hO5).only hO6⟩
      rw [HRES.out, if_neg h8]
      exact hB6
  · have hc12 : (c : Int) = 12 := by omega
    rw [hc12] at hB' f38
    have hres : x.refill.cells = st (u64s (blockL (x.buf.getD 28 0) (x.buf.getD 29 0) (x.buf.getD 30 0) (x.buf.getD 31 0) 0)) (.int .u64 (n64 (x.buf.getD 28 0))) (.int .u64 (n64 (x.buf.getD 29 0))) (.int .u64 (n64 (x.buf.getD 30 0))) (.int .u64 (n64 (x.buf.getD 31 0))) (.int .u32 0) (.int .u32 32) (.int .u32 0) := by
      have h1 : x.refill = seeded (x.buf.getD 28 0) (x.buf.getD 29 0) (x.buf.getD 30 0) (x.buf.getD 31 0) := if_neg hg3
      rw [h1]
      rfl
    have HRES := Lib.hid hres
    clear hc hc12 hw1 hc0
    have HBL := Lib.hid hbl
    generalize x.buf.getD 28 0 = t0 at hb28 HRES
    generalize x.buf.getD 29 0 = t1 at hb29 HRES
    generalize x.buf.getD 30 0 = t2 at hb30 HRES
    generalize x.buf.getD 31 0 = t3 at hb31 HRES
    have hL : (u64s (blockL t0 t1 t2 t3 0)).length = 32 := by rw [u64s_length, blockL_length]
    have hz : n32 (0 : W) = 0 := rfl
    have cB := fun w' L i n (hA : List.length L = 32) (h : B w' g 68 (st L (.int .u64 (n64 t0)) (.int .u64 (n64 t1)) (.int .u64 (n64 t2)) (.int .u64 (n64 t3)) i n (.int .u32 0))) =>
      pubBlock_any hb g 32 g 68 _ t0 t1 t2 t3 0 w' h.lt (by rw [st_length hA]; omega)
      ((h.cell 32).trans (st_get32 hA _ _ _ _ _ _ _)) ((h.cell 33).trans (st_get33 hA _ _ _ _ _ _ _)) ((h.cell 34).trans (st_get34 hA _ _ _ _ _ _ _)) ((h.cell 35).trans (st_get35 hA _ _ _ _ _ _ _)) h
    have HZ := Lib.hid hz
    clear hz hres
    have HB28 := Lib.hid hb28
    have HB29 := Lib.hid hb29
    have HB30 := Lib.hid hb30
    have HB31 := Lib.hid hb31
    clear hb28 hb29 hb30 hb31
    generalize u64s x.buf = A at hB' HBL HB28 HB29 HB30 HB31
    generalize u64s (blockL t0 t1 t2 t3 0) = R at cB hL HRES
    have HL := Lib.hid hL
    have CB := Lib.hid cB
    clear hL cB hbl
    have E := fun (h : A.length = 32) (q0 q1 q2 q3 i n c v : Value) => And.intro (st_set32 h q0 q1 q2 q3 i n c v) (And.intro (st_set33 h q0 q1 q2 q3 i n c v) (And.intro (st_set34 h q0 q1 q2 q3 i n c v) (And.intro (st_set35 h q0 q1 q2 q3 i n c v) (st_set38 h q0 q1 q2 q3 i n c v))))
    have E := Lib.hid (E HBL.out)
    go_enter Try.func43, Try.ntmps43
    go_wp2_with (refine wpList_store_one rfl 22 _ _ rfl g 38 rfl hB' (.int .u32 16) rfl (by rw [st_length HBL.out]; omega) rfl (by kernel_rfl) ?_; intro w1 hB1 hO1; (try go_frame); rw [(E.out _ _ _ _ _ _ _ _).2.2.2.2] at hB1; have f1 : w1.cell? ⟨g, 38, none⟩ = some (.int .u32 16) := (hB1.cell 38).trans (st_get38 HBL.out _ _ _ _ _ _ _); have b1 : w1.cell? ⟨g, 28, none⟩ = some (.int .u64 (n64 t0)) := (hB1.cell 28).trans ((st_low HBL.out _ _ _ _ _ _ _ _ (by omega)).trans HB28.out))
    go_still_tail 9, (by kernel_rfl)
    change wpList _ _ _ _ _ w1.drew
    replace hB1 := hB1.drew
    have hp1 : Past g w w1.drew := (Past.of_only hO1).drewN 1
    clear f1 hO1 f38 b1
    generalize w1.drew = v1 at hB1 hp1 ⊢
    go_wp2_with (refine wpList_store_one rfl 29 _ _ rfl g 32 rfl hB1 (.int .u64 (n64 t0)) rfl (by rw [st_length HBL.out]; omega) rfl (by kernel_rfl) ?_; intro w2 hB2 hO2; (try go_frame); rw [(E.out _ _ _ _ _ _ _ _).1] at hB2; have b2 : w2.cell? ⟨g, 29, none⟩ = some (.int .u64 (n64 t1)) := (hB2.cell 29).trans ((st_low HBL.out _ _ _ _ _ _ _ _ (by omega)).trans HB29.out))
    go_still_tail 9, (by kernel_rfl)
    change wpList _ _ _ _ _ w2.drew
    replace hB2 := hB2.drew
    have hp2 : Past g w w2.drew := (hp1.only hO2).drewN 1
    clear hO2 b2 hB1 hp1
    generalize w2.drew = v2 at hB2 hp2 ⊢
    go_wp2_with (refine wpList_store_one rfl 29 _ _ rfl g 33 rfl hB2 (.int .u64 (n64 t1)) rfl (by rw [st_length HBL.out]; omega) rfl (by kernel_rfl) ?_; intro w3 hB3 hO3; (try go_frame); rw [(E.out _ _ _ _ _ _ _ _).2.1] at hB3; have b3 : w3.cell? ⟨g, 30, none⟩ = some (.int .u64 (n64 t2)) := (hB3.cell 30).trans ((st_low HBL.out _ _ _ _ _ _ _ _ (by omega)).trans HB30.out))
    go_still_tail 9, (by kernel_rfl)
    change wpList _ _ _ _ _ w3.drew
    replace hB3 := hB3.drew
    have hp3 : Past g w w3.drew := (hp2.only hO3).drewN 1
    clear hO3 b3 hB2 hp2
    generalize w3.drew = v3 at hB3 hp3 ⊢
    go_wp2_with (refine wpList_store_one rfl 29 _ _ rfl g 34 rfl hB3 (.int .u64 (n64 t2)) rfl (by rw [st_length HBL.out]; omega) rfl (by kernel_rfl) ?_; intro w4 hB4 hO4; (try go_frame); rw [(E.out _ _ _ _ _ _ _ _).2.2.1] at hB4; have b4 : w4.cell? ⟨g, 31, none⟩ = some (.int .u64 (n64 t3)) := (hB4.cell 31).trans ((st_low HBL.out _ _ _ _ _ _ _ _ (by omega)).trans HB31.out))
    go_still_tail 9, (by kernel_rfl)
    change wpList _ _ _ _ _ w4.drew
    replace hB4 := hB4.drew
    have hp4 : Past g w w4.drew := (hp3.only hO4).drewN 1
    clear hO4 b4 hB3 hp3
    generalize w4.drew = v4 at hB4 hp4 ⊢
    go_wp2_with (first
      | (refine wpList_store_one rfl 29 _ _ rfl g 35 rfl hB4 (.int .u64 (n64 t3)) rfl (by rw [st_length HBL.out]; omega) rfl (by kernel_rfl) ?_; intro w5 hB5 hO5; (try go_frame); rw [(E.out _ _ _ _ _ _ _ _).2.2.2.1] at hB5)
      | (refine wpList_store_one rfl 22 _ _ rfl g 38 rfl hB5 (.int .u32 0) rfl (by rw [st_length HBL.out]; omega) rfl (by kernel_rfl) ?_; intro w6 hB6 hO6; (try go_frame); rw [(E.out _ _ _ _ _ _ _ _).2.2.2.2] at hB6; have f6 : w6.cell? ⟨g, 38, none⟩ = some (.int .u32 0) := (hB6.cell 38).trans (st_get38 HBL.out _ _ _ _ _ _ _)))
    go_still_tail 10, (by kernel_rfl)
    change wpList _ _ _ _ _ w6.drew
    replace hB6 := hB6.drew
    have hp6 : Past g w w6.drew := ((hp4.only hO5).only hO6).drewN 1
    clear hO5 hO6 hB5 hB4 hp4 f6
    generalize w6.drew = v at hB6 hp6 ⊢
    have cC := CB.out v _ _ _ HBL.out hB6
    rw [HZ.out, st_buf HBL.out] at cC
    have p36 := fun (i n c : Value) (v : Value) => st_set36 HL.out (.int .u64 (n64 t0)) (.int .u64 (n64 t1)) (.int .u64 (n64 t2)) (.int .u64 (n64 t3)) i n c v
    have p37 := fun (i n c : Value) (v : Value) => st_set37 HL.out (.int .u64 (n64 t0)) (.int .u64 (n64 t1)) (.int .u64 (n64 t2)) (.int .u64 (n64 t3)) i n c v
    have P36 := Lib.hid p36
    have P37 := Lib.hid p37
    clear p36 p37
    go_wp2_with (first
      | (go_at_call 61; refine cC.mono ?_; rintro e u4 ⟨rfl, hC4, hq4⟩)
      | (refine wpList_store_one rfl 22 _ _ rfl g 36 rfl hC4 (.int .u32 0) rfl (by rw [st_length HL.out]; omega) rfl (by kernel_rfl) ?_; intro u5 hC5 hQ5; (try go_frame); rw [P36.out] at hC5)
      | (refine wpList_store_one rfl 22 _ _ rfl g 37 rfl hC5 (.int .u32 32) rfl (by rw [st_length HL.out]; omega) rfl (by kernel_rfl) ?_; intro u6 hC6 hQ6; (try go_frame); rw [P37.out] at hC6; have f7 : u6.cell? ⟨g, 38, none⟩ = some (.int .u32 0) := (hC6.cell 38).trans (st_get38 HL.out _ _ _ _ _ _ _)))
    go_end0
    refine ⟨rfl, ?_, ((hp6.trans hq4).only hQ5).only hQ6⟩
    rw [HRES.out]
    exact hC6
end Go.Proofs.Ytjhpffenlhfilaa.Ch
