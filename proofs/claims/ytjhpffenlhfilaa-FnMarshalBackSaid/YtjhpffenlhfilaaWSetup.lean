/- The walk of the package's setup: the deferred closure first. -/
import Derived.Test.YtjhpffenlhfilaaNum64
import Derived.Test.YtjhpffenlhfilaaPast
import Derived.Test.YtjhpffenlhfilaaEq
import Derived.Defers
import Derived.StillTailTactics
import Derived.Outline
import Derived.Deep.QuietTactic
import Derived.BigQuiet
import Derived.Lib.Hide
import Derived.KernelRfl
namespace Go.Proofs.Ytjhpffenlhfilaa.Ch
open Go.RowKit Mem

attribute [local go_sem high] bo_shl64 bo_shr64 bo_or64 bo_shl64w bo_or64w bo_orw64
attribute [local go_sem] n64_lo n64_wrap32

/-- Each number's two words, the lower one first. -/
def split (l : List V) : List W := l.flatMap fun v => [lo v, hi v]

theorem split_append (l m : List V) : split (l ++ m) = split l ++ split m := by simp [split]
theorem split_length (l : List V) : (split l).length = 2 * l.length := by
  induction l with
  | nil => rfl
  | cons x l ih =>
    show (lo x :: hi x :: split l).length = _
    simp [ih]; omega

theorem info99 : (Try.prog.info? 99).map (fun i => (i.zero, i.size)) = some (some (.agg (u64s [0, 0]).toArray), 2) := by kernel_rfl

theorem size100 : (Try.prog.info? 100).map (·.size) = some 32 := by kernel_rfl
theorem size99 : (Try.prog.info? 99).map (·.size) = some 2 := by kernel_rfl
theorem size25 : (Try.prog.info? 25).map (·.size) = some 4 := by kernel_rfl
theorem row_of {P : Program} {t : TypeId} {z : Value} {s : Nat} (h : (P.info? t).map (fun i => (i.zero, i.size)) = some (some z, s)) : ∃ ti, P.info? t = some ti ∧ ti.zero = some z ∧ ti.size = s := by
  cases hi : P.info? t with
  | none => rw [hi] at h; cases h
  | some ti =>
    rw [hi] at h
    simp only [Option.map_some, Option.some.injEq, Prod.mk.injEq] at h
    exact ⟨ti, rfl, h.1, h.2⟩

/-- One element of an array of arrays, by value. -/
theorem run_index_part {P : Program} (w : World) {t e e' : TypeId} {n m s : Nat} {ti : TypeInfo} (ht : P.underlying t = some (.array n e)) (he : P.underlying e = some (.array m e')) (hi : P.info? e = some ti) (hs : ti.size = s) (l part : List Value) (i : Nat) (hin : i < n)
    (hp : (l.drop (i * s)).take s = part) : (Instr.index t (.agg l.toArray) (.int .i64 (i : Int))).run P w = .ok (.agg part.toArray) w := by
  have h1 : (0 : Int) ≤ (i : Int) := by omega
  have h2 : (i : Int) < (n : Int) := by omega
  have hpart := Eq.run_part_array (P := P) he hi hs l.toArray (i * s) w
  have e1 : l.toArray.extract (i * s) (i * s + s) = part.toArray := by
    rw [← hp]
    apply Array.ext'
    simp [List.extract]
  rw [e1] at hpart
  simp [Instr.index, asIntOf, run_underlying ht, h1, sizeOf, typeInfo, hi, hs, hpart]
  intro h
  omega

theorem split_take (bs : List V) (i : Nat) (h : 2 * i + 1 < bs.length) : split (bs.take (2 * (i + 1))) = split (bs.take (2 * i)) ++ [lo (bs.getD (2 * i) 0), hi (bs.getD (2 * i) 0), lo (bs.getD (2 * i + 1) 0), hi (bs.getD (2 * i + 1) 0)] := by
  have e1 : bs.getD (2 * i) 0 = bs[2 * i] := by simp [List.getD, show 2 * i < bs.length by omega]
  have e2 : bs.getD (2 * i + 1) 0 = bs[2 * i + 1] := by simp [List.getD, h]
  rw [show 2 * (i + 1) = (2 * i + 1) + 1 by omega, List.take_succ_eq_append_getElem h, List.take_succ_eq_append_getElem (show 2 * i < bs.length by omega), e1, e2, split_append, split_append]
  simp [split]

set_option maxRecDepth 100000 in
set_option maxHeartbeats 1000000 in
theorem closure_deferred (gb g6 g4 : Nat) (bs : List V) (hbs : bs.length = 32) (l0 : List Value) (hl0 : l0.length = 64) (w : World)
    (hB : B w g6 100 (u64s bs)) (hP : B w g4 95 [.pointer (some ⟨gb, 0, none⟩)]) (hD : B w gb 51 l0) (u : FrameMode) :
    CallsD Try.prog 71 #[.pointer (some ⟨g6, 0, none⟩), .pointer (some ⟨g4, 0, none⟩)] u w fun e u' w' =>
      u' = u ∧ (e = .returned (.tuple #[]) ∧ B w' gb 51 (w32s (split bs)) ∧ Past gb w w') := by
  obtain ⟨ti, hti, hz, hsz⟩ := row_of info99
  have HBS := Lib.hid hbs
  have HL0 := Lib.hid hl0
  clear hbs hl0
  go_enter_d Try.func71, Try.ntmps71
  go_wp2_with (refine wpList_load_all rfl 100 _ rfl g6 rfl hB Try.underlying100 rfl (by rw [size100, u64s_length, HBS.out]) ?_)
  go_loopw [5] (fun i wr => ∃ k : Nat, k ≤ 16 ∧ i = .int .i64 (k : Int) ∧ B wr g4 95 [.pointer (some ⟨gb, 0, none⟩)] ∧ B wr gb 51 (w32s (split (bs.take (2 * k))) ++ l0.drop (4 * k)) ∧ Past gb w wr) (fun i _ => 16 - (intOf i).toNat)
  case atStart => exact ⟨0, Nat.zero_le _, rfl, hP, hD, Past.refl _ _⟩
  case round =>
    clear hB hP hD
    obtain ⟨k, hk, rfl, hP, hD, hpast⟩ := hrel
    by_cases hlt : k < 16
    · have hlt' : (k : Int) < 16 := by omega
      have hst := split_take bs k (by rw [HBS.out]; omega)
      have hix : ∀ w0, (Instr.index 100 (.agg (u64s bs).toArray) (.int .i64 (k : Int))).run Try.prog w0 = .ok (.agg (u64s [bs.getD (2 * k) 0, bs.getD (2 * k + 1) 0]).toArray) w0 := fun w0 =>
        run_index_part w0 Try.underlying100 Try.underlying99 hti hsz (u64s bs) _ k hlt (by
          have h1 : k * 2 < bs.length := by rw [HBS.out]; omega
          have h2 : k * 2 + 1 < bs.length := by rw [HBS.out]; omega
          have e1 : bs.getD (2 * k) 0 = bs[k * 2] := by simp [List.getD, Nat.mul_comm 2 k, h1]
          have e2 : bs.getD (2 * k + 1) 0 = bs[k * 2 + 1] := by simp [List.getD, Nat.mul_comm 2 k, h2]
          unfold u64s
          rw [← List.map_drop, ← List.map_take, List.drop_eq_getElem_cons h1, List.drop_eq_getElem_cons h2, e1, e2]
          rfl)
      generalize bs.getD (2 * k) 0 = x at hst hix
      generalize bs.getD (2 * k + 1) 0 = y at hst hix
      have HST := Lib.hid hst
      clear hst
      go_wp2_with (first
        | (refine wpList_alloc rfl 99 rfl ti _ (u64s [0, 0]) hti hz rfl ?_; intro g3 w3 hg3 hlt3 hB3 hb3; (try go_frame))
        | (refine wpList_store_all rfl 99 _ _ rfl g3 rfl hB3 (u64s [x, y]) rfl rfl (u64s_one _) size99 ?_; intro w5 hB5 hO5; (try go_frame)))
      have hne3 : g4 ≠ g3 := by have := hP.lt; omega
      have hne4 : gb ≠ g3 := by have := hD.lt; omega
      have hP5 := (hP.call hb3).only hO5 hne3
      have hD5 := (hD.call hb3).only hO5 hne4
      have k0 : w5.cell? ⟨g4, 0, none⟩ = some (.pointer (some ⟨gb, 0, none⟩)) := hP5.cell 0
      have k1 : w5.cell? ⟨g3, 0, none⟩ = some (.int .u64 (n64 x)) := hB5.cell 0
      have k2 : w5.cell? ⟨g3, 1, none⟩ = some (.int .u64 (n64 y)) := hB5.cell 1
      have past5 : Past gb w w5 := (hpast.call hb3).new (by have := hpast.size; omega) hO5
      have hne6 : g4 ≠ gb := hP5.ne_ hD5 (by decide)
      clear hP hD hpast hb3 hO5 hB3 hB5 hix hne3 hne4
      go_still_tail 19, (by kernel_rfl)
      change wpList _ _ _ _ _ w5.drew
      have hP6 := hP5.drew
      have hD6 := hD5.drew
      have past6 : Past gb w w5.drew := past5.drewN 1
      clear hP5 hD5 past5 k0 k1 k2
      generalize w5.drew = w6 at hP6 hD6 past6 ⊢
      have hln : (w32s (split (bs.take (2 * k))) ++ l0.drop (4 * k)).length = 64 := by
        rw [List.length_append, w32s_length, split_length, List.length_take, List.length_drop, HBS.out, HL0.out]; omega
      have HLN := Lib.hid hln
      clear hln
      go_wp2_with (refine wpList_store_part rfl 25 _ _ rfl gb (k * 4) rfl hD6 (w32s [lo x, hi x, lo y, hi y]) rfl (by rw [HLN.out]; show k * 4 + 4 ≤ 64; omega) (w32s_one _) size25 ?_; intro w7 hD7 hO7; (try go_frame))
      go_roundw
      case rel =>
        refine ⟨k + 1, by omega, by go_num, hP6.only hO7 hne6, ?_, past6.only hO7⟩
        have e : List.take (k * 4) (w32s (split (bs.take (2 * k))) ++ l0.drop (4 * k)) ++ w32s [lo x, hi x, lo y, hi y] ++ List.drop (k * 4 + (w32s [lo x, hi x, lo y, hi y]).length) (w32s (split (bs.take (2 * k))) ++ l0.drop (4 * k)) = w32s (split (bs.take (2 * (k + 1)))) ++ l0.drop (4 * (k + 1)) := by
          have hl : (w32s (split (bs.take (2 * k)))).length = k * 4 := by rw [w32s_length, split_length, List.length_take, HBS.out]; omega
          rw [HST.out, w32s_append, List.take_left' hl]
          congr 1
          rw [show (w32s [lo x, hi x, lo y, hi y]).length = 4 from rfl, ← hl, ← List.drop_drop, List.drop_left' rfl, List.drop_drop]
          congr 1
        rw [← e]
        exact hD7
      case measure => simp [intOf]; omega
    · have hge : (16 : Int) ≤ (k : Int) := by omega
      have hk16 : k = 16 := by omega
      have HK := Lib.hid hk16
      clear hk16
      go_wp2
      first | go_end0 | refine bodyPost_ret (results_none rfl _ _ _) rfl ?_
      refine ⟨rfl, ?_, hpast⟩
      rw [HK.out, List.take_of_length_le (by rw [HBS.out]; omega), List.drop_of_length_le (by rw [HL0.out]; omega), List.append_nil] at hD
      exact hD
end Go.Proofs.Ytjhpffenlhfilaa.Ch
