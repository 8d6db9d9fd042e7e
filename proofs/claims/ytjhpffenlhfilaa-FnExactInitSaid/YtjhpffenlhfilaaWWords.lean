/- The walk of the reference's Words: the numbers of 32 bytes. -/
import Derived.Test.YtjhpffenlhfilaaWUnm2
import Derived.Test.YtjhpffenlhfilaaQTail
import Derived.Test.YtjhpffenlhfilaaWParts2
namespace Go.Proofs.Ytjhpffenlhfilaa.Ch
open Go.RowKit Mem

def lep (b : Nat → Y) : Nat → V
  | 0 => 0
  | j + 1 => lep b j ||| (b j).setWidth 64 <<< (8 * j)
theorem lep_8 (b : Nat → Y) : lep b 8 = le8 b := by
  have e : (0 : V) ||| (b 0).setWidth 64 <<< (8 * 0) = (b 0).setWidth 64 := by simp
  unfold le8
  simp only [lep, e]
def wl (bs : List Y) (k : Nat) : List V := (List.range 4).map fun q => lep (fun i => bs.getD (8 * q + i) 0) (min 8 (k - 8 * q))
theorem wl_length (bs : List Y) (k : Nat) : (wl bs k).length = 4 := by simp [wl]
theorem wl_get (bs : List Y) (k q : Nat) (hq : q < 4) : (wl bs k).getD q 0 = lep (fun i => bs.getD (8 * q + i) 0) (min 8 (k - 8 * q)) := by
  unfold wl
  rw [List.getD_eq_getElem?_getD, List.getElem?_map, List.getElem?_range hq]
  rfl
theorem wl_step (bs : List Y) (k : Nat) (_ : k < 32) : (wl bs k).set (k / 8) ((wl bs k).getD (k / 8) 0 ||| (bs.getD k 0).setWidth 64 <<< (8 * (k % 8))) = wl bs (k + 1) := by
  apply List.ext_getElem (by rw [List.length_set, wl_length, wl_length])
  intro q h1 h2
  rw [wl_length] at h2
  have e : ∀ l : List V, ∀ h : q < l.length, l[q] = l.getD q 0 := fun l h => by simp [List.getD, h]
  rw [e, e, wl_get _ _ _ h2, List.getD_eq_getElem?_getD, List.getElem?_set, wl_length]
  by_cases h : k / 8 = q
  · rw [if_pos h, if_pos (by omega), wl_get _ _ _ (by omega), h, show min 8 (k - 8 * q) = k % 8 by omega, show min 8 (k + 1 - 8 * q) = k % 8 + 1 by omega]
    show _ = lep _ (k % 8) ||| (bs.getD (8 * q + k % 8) 0).setWidth 64 <<< (8 * (k % 8))
    rw [show 8 * q + k % 8 = k by omega]
    rfl
  · rw [if_neg h, ← List.getD_eq_getElem?_getD, wl_get _ _ _ h2]
    by_cases h3 : q < k / 8
    · rw [show min 8 (k - 8 * q) = 8 by omega, show min 8 (k + 1 - 8 * q) = 8 by omega]
    · rw [show min 8 (k - 8 * q) = 0 by omega, show min 8 (k + 1 - 8 * q) = 0 by omega]
theorem wl_end (bs : List Y) : wl bs 32 = [word bs 0, word bs 8, word bs 16, word bs 24] := by
  show [lep _ 8, lep _ 8, lep _ 8, lep _ 8] = _
  simp only [lep_8]
  rfl
theorem wl_zero (bs : List Y) : u64s (wl bs 0) = Z4 := rfl
def Z4' : List Value := u64s (List.replicate 4 0)
theorem build30z (w : World) : (Instr.build 30 #[]).run Try.prog w = .ok (.agg Z4.toArray) w := by kernel_rfl
theorem size30w (bs : List Y) (k : Nat) : (Try.prog.info? 30).map (·.size) = some (u64s (wl bs k)).length := by
  rw [u64s_length, wl_length]; kernel_rfl

attribute [local go_sem high] bo_shl64 bo_shl64b bo_or64
attribute [local go_sem] n64_wrapb

set_option maxRecDepth 100000 in
set_option maxHeartbeats 2000000 in
theorem words_any (bs : List Y) (hl : bs.length = 32) (w : World) :
    Calls Try.prog 36 #[.agg (b8s bs).toArray] w fun e w' =>
      e = .returned (.agg (u64s [word bs 0, word bs 8, word bs 16, word bs 24]).toArray) ∧ Below w.heap.size w w' := by
  obtain ⟨ti, hti, hz, _⟩ := row_of zero30
  have hz' : ti.zero = some (.agg Z4.toArray) := hz
  have h30 := Try.underlying30
  have bz := build30z
  have iZ : (Try.prog.info? 30).map (·.size) = some Z4.length := by kernel_rfl
  have oZ : ∀ v ∈ Z4, v.oneCell' = true := u64s_one _
  have HL := Lib.hid hl
  clear hl
  go_enter Try.func36, Try.ntmps36
  go_wp2_with (first
    | (refine wpList_box rfl 57 _ rfl _ (b8s bs) rfl rfl ?_; intro g1 w1 hg1 hlt1 hD1 hb1; (try go_frame); have e1 := hb1)
    | (refine wpList_alloc rfl 30 rfl ti _ Z4 hti hz' rfl ?_; intro g3 w3 hg3 hlt3 hT3 hb3; (try go_frame); have hD3 := hD2.call hb3; have hR3 := hR2.call hb3; have e3 := below_call e2 e2.size hb3; have lg3 : w.heap.size ≤ g3 := (by have := e2.size; omega); have n13 : g1 ≠ g3 := (by have := hD2.lt; omega); have n23 : g2 ≠ g3 := (by have := hR2.lt; omega))
    | (refine wpList_alloc rfl 30 rfl ti _ Z4 hti hz' rfl ?_; intro g2 w2 hg2 hlt2 hR2 hb2; (try go_frame); have hD2 := hD1.call hb2; have e2 := below_call e1 e1.size hb2; have lg2 : w.heap.size ≤ g2 := (by have := e1.size; omega))
    | (refine wpList_build0 rfl 30 rfl _ bz ?_; (try go_frame))
    | (refine wpList_store_all rfl 30 _ _ rfl g3 rfl hT3 Z4 rfl rfl oZ iZ ?_; intro w4 hT4 hO4; (try go_frame); have hD4 := hD3.only hO4 n13; have hR4 := hR3.only hO4 n23; have e4 := e3.trans (hO4.below _ lg3)))
  rw [← wl_zero bs] at hT4
  clear hT3 hD3 hR3 e3 hb3 hO4 hR2 hD2 e2 hb2 hD1 e1 hb1 hti hz hz' bz
  go_loopw [4] (fun i wr => ∃ k : Nat, k ≤ 32 ∧ i = .int .i64 (k : Int) ∧ B wr g3 30 (u64s (wl bs k)) ∧ B wr g1 57 (b8s bs) ∧ B wr g2 30 Z4 ∧ Below w.heap.size w wr) (fun i _ => 32 - (intOf i).toNat)
  case atStart => exact ⟨0, Nat.zero_le _, rfl, hT4, hD4, hR4, e4⟩
  case round =>
    clear hT4 hD4 hR4 e4
    obtain ⟨k, hk, rfl, hT, hD, hR, hbel⟩ := hrel
    by_cases hk32 : k < 32
    · have hk' : (k : Int) < 32 := by omega
      have hst := wl_step bs k hk32
      have q1 : wr.cell? ⟨g1, k, none⟩ = some (.int .u8 (n8 (bs.getD k 0))) := (hD.cell k).trans (b8s_get bs k (by rw [HL.out]; exact hk32))
      have q2 : wr.cell? ⟨g3, k / 8, none⟩ = some (.int .u64 (n64 ((wl bs k).getD (k / 8) 0))) := (hT.cell _).trans (u64s_get _ _ (by rw [wl_length]; omega))
      have hl : k / 8 < (u64s (wl bs k)).length := by rw [u64s_length, wl_length]; omega
      generalize bs.getD k 0 = x at q1 hst
      generalize (wl bs k).getD (k / 8) 0 = y at q2 hst
      obtain ⟨q, hq⟩ : ∃ q, q = k / 8 := ⟨_, rfl⟩
      obtain ⟨r, hr⟩ : ∃ r, r = k % 8 := ⟨_, rfl⟩
      have hq2 : (q : Int) < 4 := by omega
      have v1 : IntKind.i64.wrap ((k : Int) / 8) = (q : Int) := by rw [IntKind.wrap_i64]; omega
      have v2 : (k : Int).tmod 8 = (r : Int) := by rw [Int.tmod_eq_emod_of_nonneg (by omega)]; omega
      have v3 : IntKind.i64.wrap (8 * (r : Int)) = 8 * (r : Int) := by rw [IntKind.wrap_i64]; omega
      have v4 : (0 : Int) ≤ 8 * (r : Int) := by omega
      have v5 : 8 * (r : Int) ≤ 64 := by omega
      have v6 : (8 * (r : Int)).toNat = 8 * r := by omega
      rw [← hq] at q2 hl hst
      rw [← hr] at hst
      have HST := Lib.hid hst
      have HLT := Lib.hid hl
      have HQ := Lib.hid hq
      have HR := Lib.hid hr
      clear hst hl hq hr
      go_wp2_with fail
      go_still_tail 15, (by kernel_rfl)
      change wpList _ _ _ _ _ wr.drew
      replace hT := hT.drew
      replace hD := hD.drew
      replace hR := hR.drew
      replace hbel : Below w.heap.size w wr.drew := below_drewN hbel 1
      clear q1 q2
      generalize wr.drew = v at hT hD hR hbel ⊢
      go_wp2_with (refine wpList_store_one rfl 29 _ _ rfl g3 q rfl hT (.int .u64 (n64 (y ||| (x.setWidth 64 <<< (8 * r))))) rfl HLT.out rfl (by kernel_rfl) ?_; intro w8 hT8 hO8; (try go_frame))
      go_roundw
      case rel => exact ⟨k + 1, by omega, by go_num, (by rw [← HST.out, ← u64s_set]; exact hT8), hD.only hO8 n13, hR.only hO8 n23, hbel.trans (hO8.below _ lg3)⟩
      case measure => simp [intOf]; omega
    · have hk' : (32 : Int) ≤ (k : Int) := by omega
      obtain rfl : k = 32 := by omega
      have iE := size30w bs 32
      have oE := u64s_one (wl bs 32)
      have lE : (u64s (wl bs 32)).length = Z4.length := by rw [u64s_length, wl_length]; rfl
      generalize hE : u64s (wl bs 32) = E at hT iE oE lE
      have HE := Lib.hid hE
      clear hE
      have IE := Lib.hid iE
      have LE := Lib.hid lE
      clear iE lE
      go_wp2_with (first
        | (refine wpList_load_all rfl 30 _ rfl g3 rfl hT h30 rfl IE.out ?_)
        | (refine wpList_store_all rfl 30 _ _ rfl g2 rfl hR E rfl LE.out oE IE.out ?_; intro w8 hR8 hO8; (try go_frame)))
      exact bodyPost_ret (results_block rfl _ _ g2 30 _ _ rfl hR8 h30 rfl IE.out) rfl ⟨(by rw [← wl_end, HE.out]), hbel.trans (hO8.below _ lg2)⟩
end Go.Proofs.Ytjhpffenlhfilaa.Ch
