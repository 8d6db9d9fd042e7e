/- The walks of the four functions between bytes and numbers. -/
import Derived.Test.YtjhpffenlhfilaaByt
import Derived.Outline
import Derived.Deep.QuietTactic
import Derived.BigQuiet
import Derived.Lib.Hide
namespace Go.Proofs.Ytjhpffenlhfilaa.Ch
open Go.RowKit Mem

attribute [local go_sem high] bo_shl64 bo_shr64 bo_or64 bo_shl64b bo_orb64
attribute [local go_sem] n64_wrapb n8_of64

set_option maxRecDepth 100000 in
set_option maxHeartbeats 1000000 in
theorem lePut_any (gd o n cap : Nat) (T : TypeId) (L : List Value) (v : V) (hn : 8 ≤ n) (hL : o + 8 ≤ L.length) (w : World) (hB : B w gd T L) :
    Calls Try.prog 63 #[.slice (some ⟨gd, o, none⟩) n cap, .int .u64 (n64 v)] w fun e w' =>
      e = .returned (.tuple #[]) ∧ B w' gd T (mid L o (leB v) 8) ∧ Only gd w w' := by
  have hn' : (8 : Int) ≤ (n : Int) := by omega
  have hn7 : (7 : Int) < (n : Int) := by omega
  have f7 : w.cell? ⟨gd, o + 7, none⟩ = some (L[o + 7]'(by omega)) := (hB.cell _).trans (List.getElem?_eq_getElem (by omega))
  generalize L[o + 7]'(by omega) = u at f7
  rw [← mid_zero L o (leB v)] at hB
  go_enter Try.func63, Try.ntmps63
  go_wp2
  go_loopw [4] (fun i wr => ∃ k : Nat, k ≤ 8 ∧ i = .int .i64 (k : Int) ∧ B wr gd T (mid L o (leB v) k) ∧ Only gd w wr) (fun i _ => 8 - (intOf i).toNat)
  case atStart => exact ⟨0, by omega, rfl, hB, Only.refl gd w⟩
  case round =>
    clear hB f7
    obtain ⟨k, hk, rfl, hB, hO⟩ := hrel
    by_cases hlt : k < 8
    · have hlt' : (k : Int) < 8 := by omega
      have hkn : (k : Int) < (n : Int) := by omega
      have h1 : (0 : Int) ≤ 8 * (k : Int) := by omega
      have h2 : 8 * (k : Int) ≤ 64 := by omega
      have h3 : (8 * (k : Int)).toNat = 8 * k := by omega
      have hst := mid_step L o (leB v) k _ (by rw [leB_length]; exact hlt) (by omega) (leB_get v k hlt)
      have hlen : o + k < (mid L o (leB v) k).length := by rw [mid_length _ _ _ _ (by rw [leB_length]; omega) (by omega)]; omega
      rw [← byteOf_def] at hst
      have HST := Lib.hid hst
      have HL := Lib.hid hlen
      clear hst hlen
      go_wp2_with (refine wpList_store_one rfl 5 _ _ rfl gd (o + k) rfl hB (.int .u8 (n8 ((v >>> (8 * k)).setWidth 8))) rfl HL.out rfl (by kernel_rfl) ?_; intro w5 hB5 hO5; (try go_frame))
      go_roundw
      case rel => exact ⟨k + 1, by omega, by go_num, (by rw [← HST.out]; exact hB5), hO.trans hO5⟩
      case measure => simp [intOf]; omega
    · have hge : (8 : Int) ≤ (k : Int) := by omega
      have hk8 : k = 8 := by omega
      rw [hk8] at hB
      clear hk8
      go_wp2
      go_end0
      exact ⟨rfl, hB, hO⟩

set_option maxRecDepth 100000 in
set_option maxHeartbeats 1000000 in
theorem bePut_any (gd o n cap : Nat) (T : TypeId) (L : List Value) (v : V) (hn : 8 ≤ n) (hL : o + 8 ≤ L.length) (w : World) (hB : B w gd T L) :
    Calls Try.prog 62 #[.slice (some ⟨gd, o, none⟩) n cap, .int .u64 (n64 v)] w fun e w' =>
      e = .returned (.tuple #[]) ∧ B w' gd T (mid L o (beB v) 8) ∧ Only gd w w' := by
  have hn' : (8 : Int) ≤ (n : Int) := by omega
  have hn7 : (7 : Int) < (n : Int) := by omega
  have f7 : w.cell? ⟨gd, o + 7, none⟩ = some (L[o + 7]'(by omega)) := (hB.cell _).trans (List.getElem?_eq_getElem (by omega))
  generalize L[o + 7]'(by omega) = u at f7
  rw [← mid_zero L o (beB v)] at hB
  go_enter Try.func62, Try.ntmps62
  go_wp2
  go_loopw [4] (fun i wr => ∃ k : Nat, k ≤ 8 ∧ i = .int .i64 (k : Int) ∧ B wr gd T (mid L o (beB v) k) ∧ Only gd w wr) (fun i _ => 8 - (intOf i).toNat)
  case atStart => exact ⟨0, by omega, rfl, hB, Only.refl gd w⟩
  case round =>
    clear hB f7
    obtain ⟨k, hk, rfl, hB, hO⟩ := hrel
    by_cases hlt : k < 8
    · have hlt' : (k : Int) < 8 := by omega
      have hkn : (k : Int) < (n : Int) := by omega
      have h1 : (0 : Int) ≤ 56 - 8 * (k : Int) := by omega
      have h2 : 56 - 8 * (k : Int) ≤ 64 := by omega
      have h1a : 8 * (k : Int) ≤ 56 := by omega
      have h2a : 56 ≤ 64 + 8 * (k : Int) := by omega
      have h2b : 56 ≤ 8 * (k : Int) + 64 := by omega
      have h3 : 56 - 8 * k = 8 * (7 - k) := by omega
      have hst := mid_step L o (beB v) k _ (by rw [beB_length]; exact hlt) (by omega) (beB_get v k hlt)
      have hlen : o + k < (mid L o (beB v) k).length := by rw [mid_length _ _ _ _ (by rw [beB_length]; omega) (by omega)]; omega
      rw [← byteOf_def, ← h3] at hst
      have HST := Lib.hid hst
      have HL := Lib.hid hlen
      clear hst hlen h3
      go_wp2_with (refine wpList_store_one rfl 5 _ _ rfl gd (o + k) rfl hB (.int .u8 (n8 ((v >>> (56 - 8 * k)).setWidth 8))) rfl HL.out rfl (by kernel_rfl) ?_; intro w5 hB5 hO5; (try go_frame))
      go_roundw
      case rel => exact ⟨k + 1, by omega, by go_num, (by rw [← HST.out]; exact hB5), hO.trans hO5⟩
      case measure => simp [intOf]; omega
    · have hge : (8 : Int) ≤ (k : Int) := by omega
      have hk8 : k = 8 := by omega
      rw [hk8] at hB
      clear hk8
      go_wp2
      go_end0
      exact ⟨rfl, hB, hO⟩

set_option maxRecDepth 100000 in
set_option maxHeartbeats 1000000 in
theorem le_any (gd o n cap : Nat) (b : Nat → Y) (hn : 8 ≤ n) (w : World) (h : ∀ i, i < 8 → w.cell? ⟨gd, o + i, none⟩ = some (.int .u8 (n8 (b i)))) :
    Calls Try.prog 65 #[.slice (some ⟨gd, o, none⟩) n cap] w fun e w' =>
      e = .returned (.int .u64 (n64 (le8 b))) ∧ ∃ m, w.drewN m = w' := by
  have hn' : (8 : Int) ≤ (n : Int) := by omega
  have a0 : (0 : Int) < (n : Int) := by omega
  have a1 : (1 : Int) < (n : Int) := by omega
  have a2 : (2 : Int) < (n : Int) := by omega
  have a3 : (3 : Int) < (n : Int) := by omega
  have a4 : (4 : Int) < (n : Int) := by omega
  have a5 : (5 : Int) < (n : Int) := by omega
  have a6 : (6 : Int) < (n : Int) := by omega
  have a7 : (7 : Int) < (n : Int) := by omega
  have c0 : 0 < n := by omega
  have c1 : 1 < n := by omega
  have c2 : 2 < n := by omega
  have c3 : 3 < n := by omega
  have c4 : 4 < n := by omega
  have c5 : 5 < n := by omega
  have c6 : 6 < n := by omega
  have c7 : 7 < n := by omega
  have f0 : w.cell? ⟨gd, o, none⟩ = some (.int .u8 (n8 (b 0))) := h 0 (by omega)
  have f1 := h 1 (by omega)
  have f2 := h 2 (by omega)
  have f3 := h 3 (by omega)
  have f4 := h 4 (by omega)
  have f5 := h 5 (by omega)
  have f6 := h 6 (by omega)
  have f7 := h 7 (by omega)
  have hres : le8 b = ((((((b 0).setWidth 64 ||| (b 1).setWidth 64 <<< 8) ||| (b 2).setWidth 64 <<< 16) ||| (b 3).setWidth 64 <<< 24) ||| (b 4).setWidth 64 <<< 32) ||| (b 5).setWidth 64 <<< 40) ||| (b 6).setWidth 64 <<< 48 ||| (b 7).setWidth 64 <<< 56 := rfl
  have HRES := Lib.hid hres
  clear hres h
  go_enter Try.func65, Try.ntmps65
  go_wp2
  go_quiet (fail)
  go_wp2
  go_ret
  exact ⟨by rw [HRES.out]; rfl, nq, rfl⟩

set_option maxRecDepth 100000 in
set_option maxHeartbeats 1000000 in
theorem be_any (gd o n cap : Nat) (b : Nat → Y) (hn : 8 ≤ n) (w : World) (h : ∀ i, i < 8 → w.cell? ⟨gd, o + i, none⟩ = some (.int .u8 (n8 (b i)))) :
    Calls Try.prog 64 #[.slice (some ⟨gd, o, none⟩) n cap] w fun e w' =>
      e = .returned (.int .u64 (n64 (le8 fun i => b (7 - i)))) ∧ ∃ m, w.drewN m = w' := by
  have hn' : (8 : Int) ≤ (n : Int) := by omega
  have a0 : (0 : Int) < (n : Int) := by omega
  have a1 : (1 : Int) < (n : Int) := by omega
  have a2 : (2 : Int) < (n : Int) := by omega
  have a3 : (3 : Int) < (n : Int) := by omega
  have a4 : (4 : Int) < (n : Int) := by omega
  have a5 : (5 : Int) < (n : Int) := by omega
  have a6 : (6 : Int) < (n : Int) := by omega
  have a7 : (7 : Int) < (n : Int) := by omega
  have c0 : 0 < n := by omega
  have c1 : 1 < n := by omega
  have c2 : 2 < n := by omega
  have c3 : 3 < n := by omega
  have c4 : 4 < n := by omega
  have c5 : 5 < n := by omega
  have c6 : 6 < n := by omega
  have c7 : 7 < n := by omega
  have f0 : w.cell? ⟨gd, o, none⟩ = some (.int .u8 (n8 (b 0))) := h 0 (by omega)
  have f1 := h 1 (by omega)
  have f2 := h 2 (by omega)
  have f3 := h 3 (by omega)
  have f4 := h 4 (by omega)
  have f5 := h 5 (by omega)
  have f6 := h 6 (by omega)
  have f7 := h 7 (by omega)
  have hres : (le8 fun i => b (7 - i)) = ((((((b 7).setWidth 64 ||| (b 6).setWidth 64 <<< 8) ||| (b 5).setWidth 64 <<< 16) ||| (b 4).setWidth 64 <<< 24) ||| (b 3).setWidth 64 <<< 32) ||| (b 2).setWidth 64 <<< 40) ||| (b 1).setWidth 64 <<< 48 ||| (b 0).setWidth 64 <<< 56 := rfl
  have HRES := Lib.hid hres
  clear hres h
  go_enter Try.func64, Try.ntmps64
  go_wp2
  go_quiet (fail)
  go_wp2
  go_ret
  exact ⟨by rw [HRES.out]; rfl, nq, rfl⟩
end Go.Proofs.Ytjhpffenlhfilaa.Ch
