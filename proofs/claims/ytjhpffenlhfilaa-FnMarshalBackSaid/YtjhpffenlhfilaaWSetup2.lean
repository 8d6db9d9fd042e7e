/- The walk of the package's setup. -/
import Derived.Test.YtjhpffenlhfilaaWSetup
namespace Go.Proofs.Ytjhpffenlhfilaa.Ch
open Go.RowKit Mem

attribute [local go_sem high] bo_shl64 bo_shr64 bo_or64 bo_shl64w bo_or64w bo_orw64 bo_add
attribute [local go_sem] n64_lo n64_wrap32 n64_wrapw n32_wrap_self n32_wrap_add1 n32_wrap_add2 n32_wrap_add3

def dup (x : W) : V := (x.setWidth 64 <<< 32) ||| x.setWidth 64
def K0 : V := 7021244195892394085#64
def K1 : V := 3684054919656006766#64
def K2 : V := 8746603121115016498#64
def K3 : V := 7719281312000927092#64
/-- The sixteen rows of two numbers that setup fills. -/
def pre (s0 s1 s2 s3 : V) (c : W) : List V :=
  [K0, K0, K1, K1, K2, K2, K3, K3, dup (lo s0), dup (lo s0), dup (hi s0), dup (hi s0), dup (lo s1), dup (lo s1), dup (hi s1), dup (hi s1),
   dup (lo s2), dup (lo s2), dup (hi s2), dup (hi s2), dup (lo s3), dup (lo s3), dup (hi s3), dup (hi s3), two c (c + 1#32), two (c + 2#32) (c + 3#32), 0, 0, 0, 0, 0, 0]

theorem zero100 : (Try.prog.info? 100).map (fun i => (i.zero, i.size)) = some (some (.agg (u64s (List.replicate 32 0)).toArray), 32) := by kernel_rfl
def Z32 : List Value := u64s (List.replicate 32 0)
theorem Z32_length : Z32.length = 32 := by simp [Z32, u64s]

set_option maxRecDepth 100000 in
set_option maxHeartbeats 4000000 in
theorem setup_any (gs os gb : Nat) (s0 s1 s2 s3 : V) (c : W) (l0 : List Value) (hl0 : l0.length = 64) (w : World) (hlt : gs < w.heap.size)
    (q0 : w.cell? ⟨gs, os, none⟩ = some (.int .u64 (n64 s0))) (q1 : w.cell? ⟨gs, os + 1, none⟩ = some (.int .u64 (n64 s1))) (q2 : w.cell? ⟨gs, os + 2, none⟩ = some (.int .u64 (n64 s2))) (q3 : w.cell? ⟨gs, os + 3, none⟩ = some (.int .u64 (n64 s3)))
    (hD : B w gb 51 l0) :
    Calls Try.prog 67 #[.pointer (some ⟨gs, os, none⟩), .pointer (some ⟨gb, 0, none⟩), .int .u32 (n32 c)] w fun e w' =>
      e = .returned (.tuple #[]) ∧ B w' gb 51 (w32s (split (pre s0 s1 s2 s3 c))) ∧ Past gb w w' := by
  obtain ⟨ti, hti, hz, hsz⟩ := row_of zero100
  have hz' : ti.zero = some (.agg Z32.toArray) := hz
  have hmf : ∀ (fn : Fn) (first cap : Array Value) (w : World), (Instr.makeFunc fn first cap).run Try.prog w = .ok (.func fn first cap) w := fun _ _ _ _ => rfl
  go_enter_defers Try.func67, Try.ntmps67
  go_wp2_with ((refine wpList_box rfl 95 _ rfl _ [.pointer (some ⟨gb, 0, none⟩)] rfl rfl ?_; intro g4 w4 hg4 hlt4 hP hb4; (try go_frame); have hD4 := hD.call hb4; have r0 : ∀ o, (w4.alloc o).cell? ⟨gs, os, none⟩ = some (.int .u64 (n64 s0)) := (fun o => ((hb4.alloc hb4.size o).cell (p := ⟨gs, os, none⟩) hlt).trans q0); have r1 : ∀ o, (w4.alloc o).cell? ⟨gs, os + 1, none⟩ = some (.int .u64 (n64 s1)) := (fun o => ((hb4.alloc hb4.size o).cell (p := ⟨gs, os + 1, none⟩) hlt).trans q1); have r2 : ∀ o, (w4.alloc o).cell? ⟨gs, os + 2, none⟩ = some (.int .u64 (n64 s2)) := (fun o => ((hb4.alloc hb4.size o).cell (p := ⟨gs, os + 2, none⟩) hlt).trans q2); have r3 : ∀ o, (w4.alloc o).cell? ⟨gs, os + 3, none⟩ = some (.int .u64 (n64 s3)) := (fun o => ((hb4.alloc hb4.size o).cell (p := ⟨gs, os + 3, none⟩) hlt).trans q3)))
  have hB : B _ w4.heap.size 100 (u64s (pre s0 s1 s2 s3 c)) := B.new w4 100 (u64s (pre s0 s1 s2 s3 c))
  refine leaves_cons (f := 71) (args := #[.pointer (some ⟨w4.heap.size, 0, none⟩), .pointer (some ⟨g4, 0, none⟩)]) (by simp) (by simp [go_sem]) ?_
  refine (closure_deferred gb w4.heap.size g4 (pre s0 s1 s2 s3 c) rfl l0 hl0 _ hB (hP.alloc _) (hD4.alloc _) .returning).mono ?_
  rintro e u' w'' ⟨rfl, rfl, h1, h2⟩
  exact ⟨_, results_none rfl _ _ _, rfl, h1, ((Past.of_below hb4).call ((Below.refl _ _).alloc (Nat.le_refl _) _)).trans h2⟩
end Go.Proofs.Ytjhpffenlhfilaa.Ch
