/- The walk of the law on what is drawn. -/
import Derived.Test.YtjhpffenlhfilaaWStream
import Derived.Test.YtjhpffenlhfilaaLSetup
import Derived.BigQuiet
import Derived.Deep.QuietTactic
namespace Go.Proofs.Ytjhpffenlhfilaa
open Go.RowKit Ch Mem

theorem guard_Draw (l0 : List Int) (a1 : Int) (hg : a1 < 0 ∨ 600 < a1) (W : World) :
    Calls Try.prog 16 #[.agg (Eq.ints .u64 l0), .int .i64 a1] W fun e w' => e = .returned (.bool true) ∧ Below W.heap.size W w' := by
  generalize Eq.ints .u64 l0 = S
  by_cases h1 : a1 < 0
  · clear hg
    go_enter Try.func16, Try.ntmps16
    go_wp2
    go_ret
    exact ⟨rfl, (Below.refl _ _).alloc (Nat.le_refl _) _⟩
  · have h2 : 600 < a1 := by omega
    clear hg
    go_enter Try.func16, Try.ntmps16
    go_wp2
    go_ret
    exact ⟨rfl, (Below.refl _ _).alloc (Nat.le_refl _) _⟩

set_option maxRecDepth 100000 in
set_option maxHeartbeats 4000000 in
theorem walk_FnExactDraw (hb : BlockC) (l0 : List Int) (hl0 : l0.length = 4) (w0 : ∀ x ∈ l0, (Lit.int .u64 x).wf = true) (a1 : Int) (w1 : (Lit.int .i64 a1).wf = true) (W : World) :
    Calls Try.prog 16 #[.agg (Eq.ints .u64 l0), .int .i64 a1] W fun e w' => e = .returned (.bool true) ∧ Below W.heap.size W w' := by
  by_cases hg : a1 < 0 ∨ 600 < a1
  · exact guard_Draw l0 a1 hg W
  obtain ⟨s0, s1, s2, s3, hs⟩ := seed_of hl0 w0
  rw [hs]
  obtain ⟨n, rfl⟩ : ∃ n : Nat, a1 = (n : Int) := ⟨a1.toNat, by omega⟩
  have n1 : (0 : Int) ≤ (n : Int) := by omega
  have n2 : (n : Int) ≤ 600 := by omega
  clear hg w1 hl0 w0 hs
  have h30 := Try.underlying30
  have cD := fun w => draw_any hb s0 s1 s2 s3 n (by omega) w
  have cE := fun w => stream_any s0 s1 s2 s3 n (by omega) w
  have hda := (seeded s0 s1 s2 s3).list_length n
  generalize (seeded s0 s1 s2 s3).list n = LA at cD cE hda
  have HDA := Lib.hid hda
  have CD := Lib.hid cD
  have CE := Lib.hid cE
  clear hda cD cE
  have hSi : (Try.prog.info? 30).map (·.size) = some (u64s [s0, s1, s2, s3]).length := by kernel_rfl
  go_enter Try.func16, Try.ntmps16
  go_wp2_with (first
    | (refine wpList_box rfl 30 _ rfl _ (u64s [s0, s1, s2, s3]) rfl rfl ?_; intro gs w1 hgs hlt1 hS1 hb1; (try go_frame))
    | (refine wpList_load_all rfl 30 _ rfl gs rfl hS1 h30 rfl hSi ?_)
    | (go_at_call 37; refine (CE.out _).mono ?_; rintro e w2 ⟨A2, c2, rfl, hr2, hb2⟩; have hS2 := hS1.call hb2; have e2 := below_call hb1 hb1.size hb2)
    | (refine wpList_load_all rfl 30 _ rfl gs rfl hS2 h30 rfl hSi ?_)
    | (go_at_call 28; refine (CD.out _).mono ?_; rintro e w3 ⟨A1, c1, rfl, hr1, hb3⟩; have e3 := below_call e2 e2.size hb3; have hr2' := hr2.below hb3))
  generalize w2.heap.size = B2 at hr2'
  generalize w3.heap.size = B1 at hr1
  go_loopw [7] (fun i wr => ∃ k : Nat, k ≤ n ∧ i = .int .i64 (k : Int) ∧ Reads wr B1 1 A1 n (u64s LA) ∧ Reads wr B2 1 A2 n (u64s LA) ∧ Below W.heap.size W wr) (fun i _ => n - (intOf i).toNat)
  case atStart => exact ⟨0, Nat.zero_le _, rfl, hr1, hr2', e3⟩
  case round =>
    clear hr1 hr2 hr2' e3 e2 hb3 hb2 hS1 hS2 hb1
    obtain ⟨k, hk, rfl, hrA, hrB, hbel⟩ := hrel
    by_cases hlt : k < n
    · have hlt' : (k : Int) < (n : Int) := by omega
      obtain ⟨ad, u, hA1, _, hu, hc⟩ := hrA.at_ hlt
      obtain ⟨ad2, u2, hA2, _, hu2, hc2⟩ := hrB.at_ hlt
      rw [u64s_get _ _ (by rw [HDA.out]; exact hlt)] at hu hu2
      obtain rfl := Option.some.inj hu
      obtain rfl := Option.some.inj hu2
      subst hA1
      subst hA2
      clear hu hu2
      generalize LA.getD k 0 = v at hc hc2
      go_wp2_with fail
      go_quiet (fail)
      have hrA' := hrA.drewN nq
      have hrB' := hrB.drewN nq
      have hbel' := below_drewN hbel nq
      go_wp2
      go_roundw
      case rel => exact ⟨k + 1, by omega, by go_num, hrA', hrB', hbel'⟩
      case measure => simp [intOf]; omega
    · have hge : (n : Int) ≤ (k : Int) := by omega
      go_wp2
      go_ret
      exact ⟨rfl, hbel⟩
end Go.Proofs.Ytjhpffenlhfilaa
