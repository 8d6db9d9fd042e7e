/- The walk of the package's XORKeyStream: the destination a row of the caller's own; the source elsewhere, or that very row. -/
import Derived.Test.YtcmokpacocgolaaWNum
namespace Go.Proofs.Ytcmokpacocgolaa.Rc
open Go.RowKit Mem

set_option maxHeartbeats 400000 in
theorem xor_none (p : Value) (D : Option Addr) (m capd : Nat) (A : Option Addr) (cap : Nat) (w : World) :
    Calls Try.prog 29 #[p, .slice D m capd, .slice A 0 cap] w fun e w' => e = .returned (.tuple #[]) ∧ w = w' := by
  go_enter Try.func29, Try.ntmps29
  go_wp2
  first | go_end0 | refine bodyPost_ret (results_none rfl _ _ _) rfl ?_
  exact ⟨rfl, rfl⟩

/-- What the source still reads as, from place q on. -/
def Src (w : World) (ad : Addr) (n : Nat) (vs : List Nat) (q : Nat) : Prop := ∀ i, q ≤ i → i < n → w.cell? (ad.add i) = some (.int .u8 (vs.getD i 0 : Nat))

set_option maxRecDepth 100000 in
set_option maxHeartbeats 2000000 in
theorem xor_some (c : C) (hc : Ok c) (gc gd : Nat) (n capd cap : Nat) (ad : Addr) (vs : List Nat) (l : List Value) (w : World)
    (hn : 1 ≤ n) (hnc : n ≤ capd) (hmax : n ≤ 2147483647) (hvl : vs.length = n) (hvs : ∀ v ∈ vs, v < 256) (hC : B w gc 59 (cip c)) (hD : B w gd 5 l) (hl : n ≤ l.length) (hne : gc ≠ gd)
    (hs : Src w ad n vs 0) (had1 : ad.block ≠ gc) (had2 : ad.block ≠ gd ∨ ad = ⟨gd, 0, none⟩) :
    Calls Try.prog 29 #[.pointer (some ⟨gc, 0, none⟩), .slice (some ⟨gd, 0, none⟩) n capd, .slice (some ad) n cap] w fun e w' =>
      e = .returned (.tuple #[]) ∧ B w' gc 59 (cip (after c n)) ∧ B w' gd 5 (u8s (mix c vs) ++ l.drop n) ∧ Only2 gc gd w w' := by
  have hci := hc.i
  have hcj := hc.j
  have hclen := hc.len
  have HVL := Lib.hid hvl
  have HCL := Lib.hid hclen
  clear hvl hclen
  have hn1 : (1 : Int) ≤ (n : Int) := by omega
  have hn2 : (n : Int) ≤ (capd : Int) := by omega
  have hn3 : (n : Int) ≤ 2147483647 := by omega
  have hnz : ((n : Int) == 0) = false := by rw [beq_eq_false_iff_ne]; omega
  have k1 : w.cell? ⟨gc, 256, none⟩ = some (.int .u8 (c.i : Int)) := (hC.cell 256).trans (cip_getI c HCL.out)
  have k2 : w.cell? ⟨gc, 257, none⟩ = some (.int .u8 (c.j : Int)) := (hC.cell 257).trans (cip_getJ c HCL.out)
  obtain ⟨v0, k3⟩ : ∃ v0, w.cell? ⟨gd, n - 1, none⟩ = some v0 := ⟨_, (hD.cell _).trans (List.getElem?_eq_getElem (by omega))⟩
  go_enter Try.func29, Try.ntmps29
  go_wp2_with fail
  go_quiet (fail)
  go_wp2
  clear k1 k2 k3
  have hC0 := hC.drewN nq
  have hD0 := hD.drewN nq
  have hs0 : Src (w.drewN nq) ad n vs 0 := hs
  have O0 : Only2 gc gd w (w.drewN nq) := (Only2.refl gc gd w).drewN nq
  clear hC hD hs
  generalize w.drewN nq = w0 at hC0 hD0 hs0 O0 ⊢
  have hml : (mix c vs).length = n := by rw [mix_length, HVL.out]
  have HML := Lib.hid hml
  clear hml
  go_loopw [6, 7, 35] (fun i j k wr => ∃ q : Nat, q ≤ n ∧ k = .int .i64 (q : Int) ∧ i = .int .u8 ((after c q).i : Int) ∧ j = .int .u8 ((after c q).j : Int) ∧
      B wr gc 59 (cip ⟨(after c q).S, c.i, c.j⟩) ∧ B wr gd 5 (u8s ((mix c vs).take q) ++ l.drop q) ∧ Src wr ad n vs q ∧ Only2 gc gd w wr) (fun _ _ k _ => n - (intOf k).toNat)
  case atStart => exact ⟨0, Nat.zero_le _, rfl, rfl, rfl, hC0, by simpa [u8s] using hD0, hs0, O0⟩
  case round =>
    clear hC0 hD0 hs0 O0
    obtain ⟨q, hq, rfl, rfl, rfl, hC, hD, hs, hO⟩ := hrel
    have ho := after_ok hc q
    by_cases hlt : q < n
    · have hlt' : (q : Int) < (n : Int) := by omega
      have hob := outB_nxt ho
      have hml := mix_getD c vs q (by rw [HVL.out]; exact hlt)
      have hol := outB_lt (nxt_ok ho)
      have hnx : after c (q + 1) = nxt (after c q) := rfl
      have HNX := Lib.hid hnx
      rw [hnx] at hml
      clear hnx
      generalize hg : after c q = d at hC ho hob hml hol HNX ⊢
      clear hg
      have hi256 := ho.i
      have hj256 := ho.j
      have hlen := ho.len
      have HL := Lib.hid hlen
      clear hlen
      have hI : nxtI d < 256 := Nat.mod_lt _ (by omega)
      have hJ : nxtJ d < 256 := Nat.mod_lt _ (by omega)
      have f1 : wr.cell? ⟨gc, (d.i + 1) % 256, none⟩ = some (.int .u32 (d.S.getD (nxtI d) 0 : Nat)) := (hC.cell (nxtI d)).trans (cip_get ⟨d.S, c.i, c.j⟩ (nxtI d) (by show nxtI d < d.S.length; rw [HL.out]; exact hI))
      have f2 : wr.cell? ⟨gc, (d.j + d.S.getD (nxtI d) 0) % 256, none⟩ = some (.int .u32 (d.S.getD (nxtJ d) 0 : Nat)) := (hC.cell (nxtJ d)).trans (cip_get ⟨d.S, c.i, c.j⟩ (nxtJ d) (by show nxtJ d < d.S.length; rw [HL.out]; exact hJ))
      have f3 : wr.cell? (ad.add q) = some (.int .u8 (vs.getD q 0 : Nat)) := hs q (Nat.le_refl _) hlt
      have hx : d.S.getD (nxtI d) 0 < 256 := getD_lt ho.lt _
      have hy : d.S.getD (nxtJ d) 0 < 256 := getD_lt ho.lt _
      have hv : vs.getD q 0 < 256 := getD_lt hvs _
      have z1 := hC.frozen ((d.i + 1) % 256)
      have z2 := hC.frozen ((d.j + d.S.getD (nxtI d) 0) % 256)
      have f4 : (wr.setCell ⟨gc, (d.i + 1) % 256, none⟩ (.int .u32 (d.S.getD (nxtJ d) 0 : Nat))).cell? ⟨gc, (d.j + d.S.getD (nxtI d) 0) % 256, none⟩ = some (.int .u32 ((d.S.set (nxtI d) (d.S.getD (nxtJ d) 0)).getD (nxtJ d) 0 : Nat)) := by
        have h := (hC.set_ (nxtI d) (.int .u32 (d.S.getD (nxtJ d) 0 : Nat))).cell (nxtJ d)
        rw [cip_set ⟨d.S, c.i, c.j⟩ (nxtI d) _ (by show nxtI d < d.S.length; rw [HL.out]; exact hI)] at h
        refine h.trans (cip_get ⟨d.S.set (nxtI d) (d.S.getD (nxtJ d) 0), c.i, c.j⟩ (nxtJ d) ?_)
        simp; rw [HL.out]; exact hJ
      have e5 : B ((wr.setCell ⟨gc, (d.i + 1) % 256, none⟩ (.int .u32 (d.S.getD (nxtJ d) 0 : Nat))).setCell ⟨gc, (d.j + d.S.getD (nxtI d) 0) % 256, none⟩ (.int .u32 (d.S.getD (nxtI d) 0 : Nat))).drew gc 59 (cip ⟨(nxt d).S, c.i, c.j⟩) := by
        have h := ((hC.set_ (nxtI d) (.int .u32 (d.S.getD (nxtJ d) 0 : Nat))).set_ (nxtJ d) (.int .u32 (d.S.getD (nxtI d) 0 : Nat))).drew
        rw [cip_set ⟨d.S, c.i, c.j⟩ (nxtI d) _ (by show nxtI d < d.S.length; rw [HL.out]; exact hI), cip_set _ (nxtJ d) _ (by simp; rw [HL.out]; exact hJ)] at h
        exact h
      have O5 : Only gc wr ((wr.setCell ⟨gc, (d.i + 1) % 256, none⟩ (.int .u32 (d.S.getD (nxtJ d) 0 : Nat))).setCell ⟨gc, (d.j + d.S.getD (nxtI d) 0) % 256, none⟩ (.int .u32 (d.S.getD (nxtI d) 0 : Nat))).drew :=
        ((Only.setCell gc _ _ wr).trans (Only.setCell gc _ _ _)).drewN 1
      have hNI : (nxt d).i = (d.i + 1) % 256 := rfl
      have hNJ : (nxt d).j = (d.j + d.S.getD (nxtI d) 0) % 256 := rfl
      have HNI := Lib.hid hNI
      have HNJ := Lib.hid hNJ
      have hoc : (cip ⟨(nxt d).S, c.i, c.j⟩)[(d.S.getD (nxtI d) 0 + d.S.getD (nxtJ d) 0) % 256]? = some (.int .u32 (outB (nxt d) : Nat)) := by
        rw [hob]
        exact cip_get ⟨(nxt d).S, c.i, c.j⟩ _ (by show _ < (nxt d).S.length; rw [(nxt_ok ho).len]; exact Nat.mod_lt _ (by omega))
      have HOC := Lib.hid hoc
      have HMV := Lib.hid hml
      clear hNI hNJ hoc hob hml
      generalize (d.S.set (nxtI d) (d.S.getD (nxtJ d) 0)).getD (nxtJ d) 0 = z at f4
      generalize d.S.getD (nxtJ d) 0 = y at f2 f4 hy e5 O5 HOC
      generalize d.S.getD (nxtI d) 0 = x at f1 f2 f4 z2 hx e5 O5 HNJ HOC
      generalize hgo : outB (nxt d) = o at hol HOC HMV
      generalize hgv : vs.getD q 0 = v at f3 hv HMV
      clear hgo hgv
      have hx' : (x : Int) < 256 := by omega
      have hy' : (y : Int) < 256 := by omega
      have ho' : (o : Int) < 256 := by omega
      have hdi' : (d.i : Int) < 256 := by omega
      have hdj' : (d.j : Int) < 256 := by omega
      have hbx := bxor8 v o hv hol
      go_wp2_with fail
      go_region
      clear f1 f2 f3 f4 z1 z2
      generalize ((wr.setCell ⟨gc, (d.i + 1) % 256, none⟩ (.int .u32 (y : Int))).setCell ⟨gc, (d.j + x) % 256, none⟩ (.int .u32 (x : Int))).drew = w5 at e5 O5 ⊢
      have hD5 := hD.only O5 hne.symm
      have f5 : w5.cell? ⟨gc, (x + y) % 256, none⟩ = some (.int .u32 (o : Int)) := (e5.cell _).trans HOC.out
      have hdl : (u8s ((mix c vs).take q) ++ l.drop q).length = l.length := by rw [List.length_append, u8s_length, List.length_take, List.length_drop, HML.out]; omega
      have HDL := Lib.hid hdl
      clear hdl
      go_wp2_with (refine wpList_store_one rfl 5 _ _ rfl gd q rfl hD5 (.int .u8 ((v ^^^ o : Nat) : Int)) rfl (by rw [HDL.out]; omega) rfl (by kernel_rfl) ?_; intro w6 hD6 hO6; (try go_frame))
      go_roundw
      case rel =>
        refine ⟨q + 1, by omega, by go_num, ?_, ?_, ?_, ?_, ?_, (hO.fst O5).snd hO6⟩
        · rw [HNX.out, HNI.out]; go_num
        · rw [HNX.out, HNJ.out]; go_num
        · rw [HNX.out]; exact e5.only hO6 hne
        · rw [← bytes_step (mix c vs) l q (by rw [HML.out]; exact hlt) (by rw [HML.out]; exact hl), HMV.out]; exact hD6
        · intro i hi1 hi2
          have h5 : w5.cell? (ad.add i) = some (.int .u8 (vs.getD i 0 : Nat)) := (World.cell?_of_block (O5.block _ (by rw [block_of_add]; exact had1))).trans (hs i (by omega) hi2)
          rcases had2 with h2 | h2
          · exact (World.cell?_of_block (hO6.block _ (by rw [block_of_add]; exact h2))).trans h5
          · subst h2
            have ea : (⟨gd, 0, none⟩ : Addr).add i = ⟨gd, i, none⟩ := by rw [Addr.add_mid, Nat.zero_add]
            rw [ea] at h5 ⊢
            rw [hD6.cell, List.getElem?_set_ne (by omega), ← hD5.cell]
            exact h5
      case measure => simp [intOf]; omega
    · have hqn : q = n := by omega
      have hge : (n : Int) ≤ (q : Int) := by omega
      have hoi := ho.i
      have hoj := ho.j
      have hlen : (cip ⟨(after c q).S, c.i, c.j⟩).length = 258 := cip_length _ ho.len
      have HLN := Lib.hid hlen
      have HQ := Lib.hid hqn
      clear hlen hqn
      have e1 := hC
      go_wp2_with (first
        | (refine wpList_store_one rfl 5 _ _ rfl gc 256 rfl hC _ rfl (by rw [HLN.out]; omega) rfl (by kernel_rfl) ?_; intro w5 hC5 hO5; clear hC; (try go_frame))
        | (refine wpList_store_one rfl 5 _ _ rfl gc 257 rfl hC5 _ rfl (by rw [List.length_set, HLN.out]; omega) rfl (by kernel_rfl) ?_; intro w6 hC6 hO6; (try go_frame)))
      first | go_end0 | refine bodyPost_ret (results_none rfl _ _ _) rfl ?_
      have hne' := hne.symm
      refine ⟨rfl, ?_, ?_, (hO.fst hO5).fst hO6⟩
      · have h := hC6
        have e2 : ((cip ⟨(after c q).S, c.i, c.j⟩).set 256 (.int .u8 ((after c q).i : Int))).set 257 (.int .u8 ((after c q).j : Int)) = cip (after c q) := cip_setIJ (after c q) c.i c.j ho.len
        rw [HQ.out] at e2 h
        rw [← e2]
        exact h
      · have h := (hD.only hO5 hne').only hO6 hne'
        rw [HQ.out] at h
        rw [List.take_of_length_le (by rw [HML.out]; omega)] at h
        exact h
end Go.Proofs.Ytcmokpacocgolaa.Rc
