/- The walks of the quarter rounds. -/
import Derived.Test.YtjhpffenlhfilaaNum
import Derived.Outline
import Derived.Deep.Draws
import Derived.Deep.QuietTactic
import Derived.BigQuiet
import Derived.Lib.Hide
namespace Go.Proofs.Ytjhpffenlhfilaa.Ch
open Go.RowKit

attribute [local go_sem high] bo_add bo_sub bo_xor bo_or bo_shl bo_shr

set_option maxHeartbeats 400000 in
theorem qr_any (a b c d : W) (w : World) :
    Calls Try.prog 60 #[.int .u32 (n32 a), .int .u32 (n32 b), .int .u32 (n32 c), .int .u32 (n32 d)] w fun e w' =>
      e = .returned (.tuple #[.int .u32 (n32 (qr a b c d).1), .int .u32 (n32 (qr a b c d).2.1), .int .u32 (n32 (qr a b c d).2.2.1), .int .u32 (n32 (qr a b c d).2.2.2)]) ∧ w = w' := by
  go_enter Try.func60, Try.ntmps60
  go_wp2
  refine bodyPost_ret (results_tmp4 rfl _ _ _) rfl ?_
  exact ⟨rfl, rfl⟩

set_option maxHeartbeats 400000 in
theorem turn_any (x : W) (n : Int) (h0 : 0 ≤ n) (h1 : n ≤ 32) (w : World) :
    Calls Try.prog 39 #[.int .u32 (n32 x), .int .i64 n] w fun e w' =>
      e = .returned (.int .u32 (n32 (rotl x n.toNat))) ∧ ∃ m, w.drewN m = w' := by
  have e : (32 - n).toNat = 32 - n.toNat := by omega
  have HE := Lib.hid e
  clear e
  go_enter Try.func39, Try.ntmps39
  go_wp2
  go_quiet (fail)
  go_wp2
  go_ret
  refine ⟨?_, _, rfl⟩
  rw [n32_shr, n32_or, HE.out]
  rfl

set_option maxHeartbeats 400000 in
theorem quarter_any (a b c d : W) (w : World) :
    Calls Try.prog 21 #[.int .u32 (n32 a), .int .u32 (n32 b), .int .u32 (n32 c), .int .u32 (n32 d)] w fun e w' =>
      e = .returned (.tuple #[.int .u32 (n32 (qr a b c d).1), .int .u32 (n32 (qr a b c d).2.1), .int .u32 (n32 (qr a b c d).2.2.1), .int .u32 (n32 (qr a b c d).2.2.2)]) ∧ ∃ m, w.drewN m = w' := by
  go_enter Try.func21, Try.ntmps21
  go_wp2_with (go_at_call 39; refine (turn_any _ _ (by omega) (by omega) _).mono ?_; rintro e w' ⟨rfl, m, rfl⟩)
  refine bodyPost_ret (results_tmp4 rfl _ _ _) rfl ?_
  exact ⟨rfl, _, rfl⟩

set_option maxHeartbeats 400000 in
theorem unquarter_any (a b c d : W) (w : World) :
    Calls Try.prog 23 #[.int .u32 (n32 a), .int .u32 (n32 b), .int .u32 (n32 c), .int .u32 (n32 d)] w fun e w' =>
      e = .returned (.tuple #[.int .u32 (n32 (unqr a b c d).1), .int .u32 (n32 (unqr a b c d).2.1), .int .u32 (n32 (unqr a b c d).2.2.1), .int .u32 (n32 (unqr a b c d).2.2.2)]) ∧ ∃ m, w.drewN m = w' := by
  go_enter Try.func23, Try.ntmps23
  go_wp2_with (go_at_call 39; refine (turn_any _ _ (by omega) (by omega) _).mono ?_; rintro e w' ⟨rfl, m, rfl⟩)
  refine bodyPost_ret (results_tmp4 rfl _ _ _) rfl ?_
  exact ⟨rfl, _, rfl⟩

set_option maxHeartbeats 400000 in
theorem zzqr_any (a b c d : W) (w : World) :
    Calls Try.prog 40 #[.int .u32 (n32 a), .int .u32 (n32 b), .int .u32 (n32 c), .int .u32 (n32 d)] w fun e w' =>
      e = .returned (.tuple #[.int .u32 (n32 (qr a b c d).1), .int .u32 (n32 (qr a b c d).2.1), .int .u32 (n32 (qr a b c d).2.2.1), .int .u32 (n32 (qr a b c d).2.2.2)]) ∧ w = w' := by
  go_enter Try.func40, Try.ntmps40
  go_wp2_with (go_at_call 60; refine (qr_any _ _ _ _ _).mono ?_; rintro e w' ⟨rfl, rfl⟩)
  refine bodyPost_ret (results_tmp4 rfl _ _ _) rfl ?_
  exact ⟨rfl, rfl⟩

set_option maxHeartbeats 400000 in
theorem quarterRound_any (a b c d : W) (w : World) :
    Calls Try.prog 22 #[.int .u32 (n32 a), .int .u32 (n32 b), .int .u32 (n32 c), .int .u32 (n32 d)] w fun e w' =>
      e = .returned (.agg #[.int .u32 (n32 (qr a b c d).1), .int .u32 (n32 (qr a b c d).2.1), .int .u32 (n32 (qr a b c d).2.2.1), .int .u32 (n32 (qr a b c d).2.2.2)]) ∧ Below w.heap.size w w' := by
  go_enter Try.func22, Try.ntmps22
  go_wp2_with (go_at_call 40; refine (zzqr_any _ _ _ _ _).mono ?_; rintro e w' ⟨rfl, rfl⟩)
  exact bodyPost_ret (v := .agg #[.int .u32 (n32 (qr a b c d).1), .int .u32 (n32 (qr a b c d).2.1), .int .u32 (n32 (qr a b c d).2.2.1), .int .u32 (n32 (qr a b c d).2.2.2)])
    (by simp [results, Try.results22, go_sem]) rfl ⟨rfl, (Below.refl _ _).alloc (Nat.le_refl _) _⟩
end Go.Proofs.Ytjhpffenlhfilaa.Ch
