/- The walk of the generator's Unmarshal where the bytes are a state. -/
import Derived.Test.YtjhpffenlhfilaaWUnm
import Derived.StillTailTactics
namespace Go.Proofs.Ytjhpffenlhfilaa.Ch
open Go.RowKit Mem

/-- A state's cells with the first k numbers of the seed read. -/
def setW (L : List Value) (bs : List Y) : Nat → List Value
  | 0 => L
  | k + 1 => (setW L bs k).set (32 + k) (.int .u64 (n64 (word bs (16 + 8 * k))))
theorem setW_length (L : List Value) (bs : List Y) (k : Nat) : (setW L bs k).length = L.length := by
  induction k with
  | zero => rfl
  | succ k ih => rw [setW, List.length_set, ih]
theorem setW_four {A : List Value} (hA : A.length = 32) (a0 a1 a2 a3 i n c : Value) (bs : List Y) :
    setW (st A a0 a1 a2 a3 i n c) bs 4 = st A (.int .u64 (n64 (word bs 16))) (.int .u64 (n64 (word bs 24))) (.int .u64 (n64 (word bs 32))) (.int .u64 (n64 (word bs 40))) i n c := by
  show ((((st A a0 a1 a2 a3 i n c).set 32 _).set 33 _).set 34 _).set 35 _ = _
  rw [st_set32 hA, st_set33 hA, st_set34 hA, st_set35 hA]

set_option maxRecDepth 100000 in
set_option maxHeartbeats 4000000 in
theorem unmarshal_ok (hb : BlockC) (g : Nat) (A : List Value) (hA : A.length = 32) (a0 a1 a2 a3 a4 a5 a6 : Value) (gd cap : Nat) (D : List Value) (bs : List Y) (hDl : D.take 48 = b8s bs) (hcap : 48 ≤ cap) (hv : validB bs) (w : World)
    (hB : B w g 68 (st A a0 a1 a2 a3 a4 a5 a6)) (hD : B w gd 5 D) :
    Calls Try.prog 47 #[.pointer (some ⟨g, 0, none⟩), .slice (some ⟨gd, 0, none⟩) 48 cap] w fun e w' =>
      e = .returned .nilIface ∧ B w' g 68 (ofB bs).cells ∧ Past g w w' := by
  obtain ⟨hl, hh, hu⟩ := hv
  have hconv := conv_ok (cap := cap) hl hDl hD hh
  have ngd : g ≠ gd := hB.ne_ hD (by decide)
  have hcap' : (48 : Int) ≤ (cap : Int) := by omega
  have hcap8 : (8 : Int) ≤ (cap : Int) := by omega
  have hcap9 : 8 ≤ cap := by omega
  have hbe := be_any gd 8 40 (cap - 8) (fun i => bs.getD (8 + i) 0) (by omega) w (fun i hi => cells_at hD hDl hl (8 + i) (by omega))
  have hU : n64 (le8 fun i => bs.getD (8 + (7 - i)) 0) = (usedB bs : Int) := rfl
  rw [hU] at hbe
  have cW := fun (k : Nat) (hk : k < 4) (n c : Nat) (hn : 8 ≤ n) (w : World) (h : B w gd 5 D) => le_any gd (16 + 8 * k) n c (fun i => bs.getD (16 + 8 * k + i) 0) hn w (fun i hi => cells_at h hDl hl (16 + 8 * k + i) (by omega))
  have hwd : ∀ k, (le8 fun i => bs.getD (16 + 8 * k + i) 0) = word bs (16 + 8 * k) := fun k => rfl
  have hLl : ∀ k, (setW (st A a0 a1 a2 a3 a4 a5 a6) bs k).length = 39 := fun k => by rw [setW_length, st_length hA]
  have h4 := setW_four hA a0 a1 a2 a3 a4 a5 a6 bs
  have hof : ofB bs = ⟨word bs 16, word bs 24, word bs 32, word bs 40, usedB bs / 32, usedB bs % 32⟩ := rfl
  have hB0 : B w g 68 (setW (st A a0 a1 a2 a3 a4 a5 a6) bs 0) := hB
  have HLL := Lib.hid hLl
  have H4 := Lib.hid h4
  have HOF := Lib.hid hof
  have HWD := Lib.hid hwd
  have CW := Lib.hid cW
  have hu' : (usedB bs : Int) ≤ 124 := by omega
  have hu0 : (0 : Int) ≤ (usedB bs : Int) := by omega
  clear hDl hl hh hU hB hLl h4 hof hwd cW
  obtain ⟨u, hug⟩ : ∃ u, u = usedB bs := ⟨_, rfl⟩
  rw [← hug] at hbe hu' hu0 hu HOF
  unfold hdrS at hconv
  clear hug
  go_enter Try.func47, Try.ntmps47
  go_wp2_with (go_at_call 64; refine hbe.mono ?_; rintro e w' ⟨rfl, m, rfl⟩)
  have hB1 := hB0.drewN m
  have hD1 := hD.drewN m
  have hp1 : Past g w (w.drewN m) := (Past.refl g w).drewN m
  clear hB0 hD hconv hbe
  generalize w.drewN m = w1 at hB1 hD1 hp1 ⊢
  go_loopw [25] (fun i wr => ∃ k : Nat, k ≤ 4 ∧ i = .int .i64 (k : Int) ∧ B wr g 68 (setW (st A a0 a1 a2 a3 a4 a5 a6) bs k) ∧ B wr gd 5 D ∧ Past g w wr) (fun i _ => 4 - (intOf i).toNat)
  case atStart => exact ⟨0, Nat.zero_le _, rfl, hB1, hD1, hp1⟩
  case round =>
    clear hB1 hD1 hp1
    obtain ⟨k, hk, rfl, hB, hD, hp⟩ := hrel
    by_cases hk4 : k < 4
    · have hk' : (k : Int) < 4 := by omega
      have cV := fun n c hn w h => CW.out k hk4 n c hn w h
      rw [HWD.out k] at cV
      have hst : (setW (st A a0 a1 a2 a3 a4 a5 a6) bs k).set (32 + k) (.int .u64 (n64 (word bs (16 + 8 * k)))) = setW (st A a0 a1 a2 a3 a4 a5 a6) bs (k + 1) := rfl
      have HST := Lib.hid hst
      have hlen : 32 + k < (setW (st A a0 a1 a2 a3 a4 a5 a6) bs k).length := by rw [HLL.out]; omega
      have HLEN := Lib.hid hlen
      clear hst hlen
      obtain ⟨p, hp'⟩ : ∃ p, p = 16 + 8 * k := ⟨_, rfl⟩
      rw [← hp'] at cV HST
      have CV := Lib.hid cV
      clear cV
      have p0 : IntKind.i64.wrap (2 + (k : Int)) = 2 + (k : Int) := by rw [IntKind.wrap_i64]; omega
      have p1 : IntKind.i64.wrap ((2 + (k : Int)) * 8) = (p : Int) := by rw [IntKind.wrap_i64]; omega
      have p2 : (p : Int) < 48 := by omega
      have p3 : p < 48 := by omega
      have p5 : (p : Int) ≤ 48 := by omega
      have p6 : (p : Int) ≤ (cap : Int) := by omega
      have p7 : p ≤ cap := by omega
      have p8 : ¬ cap = p := by omega
      have p9 : p ≤ 48 := by omega
      have p10 : 8 ≤ 48 - p := by omega
      have HP := Lib.hid hp'
      clear hp'
      generalize word bs p = v at CV HST
      go_wp2_with fail
      refine wp_region_quiet_tail 11 (by kernel_rfl) (by kernel_rfl) ?_
      simp only [List.take_succ_cons, List.take_zero, List.drop_succ_cons, List.drop_zero]
      repeat quiet_step (first | (go_at_call 65; exact Calls.quiet_of ((CV.out _ _ p10 _ (B.drewN hD _)).mono (fun _ _ ⟨he, m, hm⟩ => ⟨he, m, hm.symm⟩))))
      refine wpQuiet_nil ?_
      intro m2
      replace hB := hB.drewN m2
      replace hD := hD.drewN m2
      replace hp : Past g w (wr.drewN m2) := hp.drewN m2
      generalize wr.drewN m2 = v5 at hB hD hp ⊢
      go_wp2_with (refine wpList_store_one rfl 29 _ _ rfl g (32 + k) rfl hB (.int .u64 (n64 v)) rfl HLEN.out rfl (by kernel_rfl) ?_; intro w6 hB6 hO6; (try go_frame))
      go_roundw
      case rel => exact ⟨k + 1, by omega, by go_num, (by rw [← HST.out]; exact hB6), hD.only hO6 ngd.symm, hp.only hO6⟩
      case measure => simp [intOf]; omega
    · have hk' : (4 : Int) ≤ (k : Int) := by omega
      have hk4' : k = 4 := by omega
      rw [hk4', H4.out] at hB
      have HK := Lib.hid hk4'
      obtain ⟨q, hq⟩ : ∃ q, q = u / 32 := ⟨_, rfl⟩
      obtain ⟨r, hr⟩ : ∃ r, r = u % 32 := ⟨_, rfl⟩
      have hqi : (u : Int) / 32 = (q : Int) := by omega
      have hri : (u : Int) % 32 = (r : Int) := by omega
      have hrt : (u : Int).tmod 32 = (r : Int) := by rw [Int.tmod_eq_emod_of_nonneg (by omega)]; omega
      have hq4 : q < 4 := by omega
      have hq4' : (q : Int) < 4 := by omega
      have hr32 : (r : Int) < 32 := by omega
      have hof := HOF.out
      rw [← hq, ← hr] at hof
      have HQ := Lib.hid hq
      have HR := Lib.hid hr
      clear hk4' hq hr hk4
      have hn : n32 (BitVec.ofNat 32 (4 * q)) = 4 * (q : Int) := by rw [n32_small _ (by omega)]; omega
      generalize word bs 16 = s0 at hB hof
      generalize word bs 24 = s1 at hB hof
      generalize word bs 32 = s2 at hB hof
      generalize word bs 40 = s3 at hB hof
      have hres : (ofB bs).cells = st (u64s (blockL s0 s1 s2 s3 (BitVec.ofNat 32 (4 * q)))) (.int .u64 (n64 s0)) (.int .u64 (n64 s1)) (.int .u64 (n64 s2)) (.int .u64 (n64 s3)) (.int .u32 (r : Int)) (.int .u32 (if q = 3 then 28 else 32)) (.int .u32 (4 * (q : Int))) := by
        rw [hof]
        unfold G.cells G.buf G.c G.n
        have e2 : ((4 * q : Nat) : Int) = 4 * (q : Int) := by omega
        simp only [e2]
        congr 2
        by_cases h3 : q = 3
        · rw [if_pos h3, if_pos h3]; rfl
        · rw [if_neg h3, if_neg h3]; rfl
      have hL : (u64s (blockL s0 s1 s2 s3 (BitVec.ofNat 32 (4 * q)))).length = 32 := by rw [u64s_length, blockL_length]
      have cB := fun w' i n (h : B w' g 68 (st A (.int .u64 (n64 s0)) (.int .u64 (n64 s1)) (.int .u64 (n64 s2)) (.int .u64 (n64 s3)) i n (.int .u32 (4 * (q : Int))))) =>
        pubBlock_any hb g 32 g 68 _ s0 s1 s2 s3 (BitVec.ofNat 32 (4 * q)) w' h.lt (by rw [st_length hA]; omega)
        ((h.cell 32).trans (st_get32 hA _ _ _ _ _ _ _)) ((h.cell 33).trans (st_get33 hA _ _ _ _ _ _ _)) ((h.cell 34).trans (st_get34 hA _ _ _ _ _ _ _)) ((h.cell 35).trans (st_get35 hA _ _ _ _ _ _ _)) h
      rw [hn] at cB
      have c38 := st_set38 hA (.int .u64 (n64 s0)) (.int .u64 (n64 s1)) (.int .u64 (n64 s2)) (.int .u64 (n64 s3)) a4 a5 a6 (.int .u32 (4 * (q : Int)))
      have HRES := Lib.hid hres
      have C38 := Lib.hid c38
      clear hres c38 hn hof
      generalize u64s (blockL s0 s1 s2 s3 (BitVec.ofNat 32 (4 * q))) = R at cB hL HRES
      have HL := Lib.hid hL
      have CB := Lib.hid cB
      clear hL cB
      have P36 := Lib.hid (fun (i n c : Value) (v : Value) => st_set36 HL.out (.int .u64 (n64 s0)) (.int .u64 (n64 s1)) (.int .u64 (n64 s2)) (.int .u64 (n64 s3)) i n c v)
      have P37 := Lib.hid (fun (i n c : Value) (v : Value) => st_set37 HL.out (.int .u64 (n64 s0)) (.int .u64 (n64 s1)) (.int .u64 (n64 s2)) (.int .u64 (n64 s3)) i n c v)
      go_wp2_with (refine wpList_store_one rfl 22 _ _ rfl g 38 rfl hB (.int .u32 (4 * (q : Int))) rfl (by rw [st_length hA]; omega) rfl (by kernel_rfl) ?_; intro w1 hB1 hO1; (try go_frame); rw [C38.out] at hB1; have f1 : w1.cell? ⟨g, 38, none⟩ = some (.int .u32 (4 * (q : Int))) := (hB1.cell 38).trans (st_get38 hA _ _ _ _ _ _ _))
      go_still_tail 10, (by kernel_rfl)
      change wpList _ _ _ _ _ w1.drew
      replace hB1 := hB1.drew
      have hp2 : Past g w w1.drew := (hp.only hO1).drewN 1
      clear f1 hO1 hB hp hD
      generalize w1.drew = v1 at hB1 hp2 ⊢
      have cC := CB.out v1 _ _ hB1
      rw [st_buf hA] at cC
      by_cases h3 : q = 3
      · have h3' : (q : Int) = 3 := by omega
        have h3d : 4 * (3 : Int) = 12 := rfl
        rw [h3'] at cC ⊢
        have H3 := Lib.hid h3
        have H3' := Lib.hid h3'
        clear h3 h3' hB1
        go_wp2_with (first
          | (go_at_call 61; refine cC.mono ?_; rintro e w4 ⟨rfl, hB4, hp4⟩)
          | (refine wpList_store_one rfl 22 _ _ rfl g 36 rfl hB4 (.int .u32 (r : Int)) rfl (by rw [st_length HL.out]; omega) rfl (by kernel_rfl) ?_; intro w5 hB5 hO5; (try go_frame); rw [P36.out] at hB5)
          | (refine wpList_store_one rfl 22 _ _ rfl g 37 rfl hB5 (.int .u32 32) rfl (by rw [st_length HL.out]; omega) rfl (by kernel_rfl) ?_; intro w6 hB6 hO6; (try go_frame); rw [P37.out] at hB6; have f6 : w6.cell? ⟨g, 38, none⟩ = some (.int .u32 (4 * 3)) := (hB6.cell 38).trans (st_get38 HL.out _ _ _ _ _ _ _))
          | (refine wpList_store_one rfl 22 _ _ rfl g 37 rfl hB6 (.int .u32 28) rfl (by rw [st_length HL.out]; omega) rfl (by kernel_rfl) ?_; intro w7 hB7 hO7; (try go_frame); rw [P37.out] at hB7))
        go_ret
        refine ⟨rfl, ?_, (((hp2.trans hp4).only hO5).only hO6).only hO7⟩
        rw [HRES.out, if_pos H3.out, H3'.out]
        exact hB7
      · have h3' : ¬ 4 * (q : Int) = 12 := by omega
        have H3 := Lib.hid h3
        go_wp2_with (first
          | (go_at_call 61; refine cC.mono ?_; rintro e w4 ⟨rfl, hB4, hp4⟩)
          | (refine wpList_store_one rfl 22 _ _ rfl g 36 rfl hB4 (.int .u32 (r : Int)) rfl (by rw [st_length HL.out]; omega) rfl (by kernel_rfl) ?_; intro w5 hB5 hO5; (try go_frame); rw [P36.out] at hB5)
          | (refine wpList_store_one rfl 22 _ _ rfl g 37 rfl hB5 (.int .u32 32) rfl (by rw [st_length HL.out]; omega) rfl (by kernel_rfl) ?_; intro w6 hB6 hO6; (try go_frame); rw [P37.out] at hB6; have f6 : w6.cell? ⟨g, 38, none⟩ = some (.int .u32 (4 * (q : Int))) := (hB6.cell 38).trans (st_get38 HL.out _ _ _ _ _ _ _)))
        go_ret
        refine ⟨rfl, ?_, ((hp2.trans hp4).only hO5).only hO6⟩
        rw [HRES.out, if_neg H3.out]
        exact hB6
end Go.Proofs.Ytjhpffenlhfilaa.Ch
