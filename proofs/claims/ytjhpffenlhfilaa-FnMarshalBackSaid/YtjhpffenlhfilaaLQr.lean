/- The walks of the laws on quarter rounds. -/
import Derived.Test.YtjhpffenlhfilaaWQr
import Derived.Test.YtjhpffenlhfilaaEq
import Derived.Test.YtjhpffenlhfilaaMem
import Derived.KernelRfl
namespace Go.Proofs.Ytjhpffenlhfilaa
open Go.RowKit Ch Mem

theorem guard25 : Try.prog.eqGuardType Try.prog.depth 25 = false := by kernel_rfl
theorem size22 : (Try.prog.info? 22).map (·.size) = some 1 := by kernel_rfl

/-- A number that fits 32 bits is a word's. -/
theorem word_of {a : Int} (h : (Lit.int .u32 a).wf = true) : ∃ x : W, a = n32 x := by
  simp [Lit.wf, IntKind.min, IntKind.max, IntKind.signed, IntKind.bits] at h
  refine ⟨BitVec.ofNat 32 a.toNat, ?_⟩
  unfold n32
  rw [BitVec.toNat_ofNat]
  omega

/-- '==' on two arrays of four words. -/
theorem eql4 (a b c d a' b' c' d' : Int) (w : World) :
    (binOp .eql 25 (.agg #[.int .u32 a, .int .u32 b, .int .u32 c, .int .u32 d]) (.agg #[.int .u32 a', .int .u32 b', .int .u32 c', .int .u32 d'])).run Try.prog w =
      .ok (.bool ([a, b, c, d] == [a', b', c', d'])) w := by
  have h := size22
  cases hi : Try.prog.info? 22 with
  | none => simp [hi] at h
  | some ti =>
    rw [hi] at h
    exact Eq.run_eql_ints Try.underlying25 Try.underlying22 hi (by simpa using h) [a, b, c, d] [a', b', c', d'] rfl rfl w

theorem eql4_self (a b c d : Int) (w : World) :
    (binOp .eql 25 (.agg #[.int .u32 a, .int .u32 b, .int .u32 c, .int .u32 d]) (.agg #[.int .u32 a, .int .u32 b, .int .u32 c, .int .u32 d])).run Try.prog w = .ok (.bool true) w := by
  rw [eql4]; simp

set_option maxHeartbeats 400000 in
theorem walk_FnExactQuarter (a0 : Int) (w0 : (Lit.int .u32 a0).wf = true) (a1 : Int) (w1 : (Lit.int .u32 a1).wf = true) (a2 : Int) (w2 : (Lit.int .u32 a2).wf = true) (a3 : Int) (w3 : (Lit.int .u32 a3).wf = true) (W : World) :
    Calls Try.prog 3 #[.int .u32 a0, .int .u32 a1, .int .u32 a2, .int .u32 a3] W fun e w' => e = .returned (.bool true) ∧ Below W.heap.size W w' := by
  obtain ⟨a, rfl⟩ := word_of w0
  obtain ⟨b, rfl⟩ := word_of w1
  obtain ⟨c, rfl⟩ := word_of w2
  obtain ⟨d, rfl⟩ := word_of w3
  clear w0 w1 w2 w3
  have heq := eql4_self (n32 (qr a b c d).1) (n32 (qr a b c d).2.1) (n32 (qr a b c d).2.2.1) (n32 (qr a b c d).2.2.2)
  have hg := guard25
  go_enter Try.func3, Try.ntmps3
  go_wp2_with (first
    | (go_at_call 21; refine (quarter_any _ _ _ _ _).mono ?_; rintro e w' ⟨rfl, m, rfl⟩)
    | (go_at_call 22; refine (quarterRound_any _ _ _ _ _).mono ?_; rintro e w1 ⟨rfl, hb1⟩))
  go_ret
  exact ⟨rfl, below_of_drewN hb1⟩

set_option maxHeartbeats 400000 in
theorem walk_FnQuarterBack (a0 : Int) (w0 : (Lit.int .u32 a0).wf = true) (a1 : Int) (w1 : (Lit.int .u32 a1).wf = true) (a2 : Int) (w2 : (Lit.int .u32 a2).wf = true) (a3 : Int) (w3 : (Lit.int .u32 a3).wf = true) (W : World) :
    Calls Try.prog 5 #[.int .u32 a0, .int .u32 a1, .int .u32 a2, .int .u32 a3] W fun e w' => e = .returned (.bool true) ∧ Below W.heap.size W w' := by
  obtain ⟨a, rfl⟩ := word_of w0
  obtain ⟨b, rfl⟩ := word_of w1
  obtain ⟨c, rfl⟩ := word_of w2
  obtain ⟨d, rfl⟩ := word_of w3
  clear w0 w1 w2 w3
  have heq := eql4_self (n32 a) (n32 b) (n32 c) (n32 d)
  have hg := guard25
  go_enter Try.func5, Try.ntmps5
  go_wp2_with (first
    | (go_at_call 23; refine (unquarter_any _ _ _ _ _).mono ?_; rintro e w' ⟨rfl, m, rfl⟩)
    | (go_at_call 22; refine (quarterRound_any _ _ _ _ _).mono ?_; rintro e w1 ⟨rfl, hb1⟩; rw [qr_unqr']))
  go_ret
  exact ⟨rfl, below_of_drewN hb1⟩

theorem beq_words (a b c d a' b' c' d' : Ch.W) : ([n32 (qr a b c d).1, n32 (qr a b c d).2.1, n32 (qr a b c d).2.2.1, n32 (qr a b c d).2.2.2] == [n32 (qr a' b' c' d').1, n32 (qr a' b' c' d').2.1, n32 (qr a' b' c' d').2.2.1, n32 (qr a' b' c' d').2.2.2]) =
    ([n32 a, n32 b, n32 c, n32 d] == [n32 a', n32 b', n32 c', n32 d']) := by
  rw [Bool.eq_iff_iff, beq_iff_eq, beq_iff_eq]
  simp only [List.cons.injEq, and_true]
  constructor
  · rintro ⟨h1, h2, h3, h4⟩
    have := qr_inj (a := a) (b := b) (c := c) (d := d) (a' := a') (b' := b') (c' := c') (d' := d')
      (Prod.ext (n32_inj h1) (Prod.ext (n32_inj h2) (Prod.ext (n32_inj h3) (n32_inj h4))))
    obtain ⟨rfl, rfl, rfl, rfl⟩ := this
    exact ⟨rfl, rfl, rfl, rfl⟩
  · rintro ⟨h1, h2, h3, h4⟩
    cases n32_inj h1; cases n32_inj h2; cases n32_inj h3; cases n32_inj h4
    exact ⟨rfl, rfl, rfl, rfl⟩

theorem four {l : List Int} (h : l.length = 4) : ∃ a b c d, l = [a, b, c, d] := by
  match l, h with
  | [a, b, c, d], _ => exact ⟨a, b, c, d, rfl⟩

set_option maxRecDepth 100000 in
set_option maxHeartbeats 400000 in
theorem walk_FnQuarterApart (l0 : List Int) (hl0 : l0.length = 4) (w0 : ∀ x ∈ l0, (Lit.int .u32 x).wf = true) (l1 : List Int) (hl1 : l1.length = 4) (w1 : ∀ x ∈ l1, (Lit.int .u32 x).wf = true) (W : World) :
    Calls Try.prog 4 #[.agg (Eq.ints .u32 l0), .agg (Eq.ints .u32 l1)] W fun e w' => e = .returned (.bool true) ∧ Below W.heap.size W w' := by
  obtain ⟨a, b, c, d, rfl⟩ := four hl0
  obtain ⟨a', b', c', d', rfl⟩ := four hl1
  obtain ⟨a, rfl⟩ := word_of (w0 a (by simp))
  obtain ⟨b, rfl⟩ := word_of (w0 b (by simp))
  obtain ⟨c, rfl⟩ := word_of (w0 c (by simp))
  obtain ⟨d, rfl⟩ := word_of (w0 d (by simp))
  obtain ⟨a', rfl⟩ := word_of (w1 a' (by simp))
  obtain ⟨b', rfl⟩ := word_of (w1 b' (by simp))
  obtain ⟨c', rfl⟩ := word_of (w1 c' (by simp))
  obtain ⟨d', rfl⟩ := word_of (w1 d' (by simp))
  clear w0 w1 hl0 hl1
  have heq1 := eql4 (n32 (qr a b c d).1) (n32 (qr a b c d).2.1) (n32 (qr a b c d).2.2.1) (n32 (qr a b c d).2.2.2) (n32 (qr a' b' c' d').1) (n32 (qr a' b' c' d').2.1) (n32 (qr a' b' c' d').2.2.1) (n32 (qr a' b' c' d').2.2.2)
  have heq2 := eql4 (n32 a) (n32 b) (n32 c) (n32 d) (n32 a') (n32 b') (n32 c') (n32 d')
  have hg := guard25
  rw [beq_words] at heq1
  generalize ([n32 a, n32 b, n32 c, n32 d] == [n32 a', n32 b', n32 c', n32 d']) = t at heq1 heq2
  have hwr1 : (Eq.ints .u32 [n32 a, n32 b, n32 c, n32 d]) = #[.int .u32 (n32 a), .int .u32 (n32 b), .int .u32 (n32 c), .int .u32 (n32 d)] := rfl
  have hwr2 : (Eq.ints .u32 [n32 a', n32 b', n32 c', n32 d']) = #[.int .u32 (n32 a'), .int .u32 (n32 b'), .int .u32 (n32 c'), .int .u32 (n32 d')] := rfl
  rw [hwr1, hwr2]
  clear hwr1 hwr2
  go_enter Try.func4, Try.ntmps4
  go_wp2_with fail
  refine (quarterRound_any _ _ _ _ _).mono ?_
  rintro e w1 ⟨rfl, hb1⟩
  obtain ⟨hc1, hf1⟩ := bcell hb1
  have hz1 := hb1.size
  simp only [World.size_alloc] at hz1
  have hz2 : W.heap.size < w1.heap.size := by omega
  have hz3 : W.heap.size + 1 < w1.heap.size := by omega
  have hz4 : W.heap.size ≤ w1.heap.size := by omega
  go_wp2_with fail
  refine (quarterRound_any _ _ _ _ _).mono ?_
  rintro e w2 ⟨rfl, hb2⟩
  obtain ⟨hc2, hf2⟩ := bcell hb2
  have hz5 := hb2.size
  simp only [World.size_alloc] at hz5
  have hz6 : W.heap.size < w2.heap.size := by omega
  have hz7 : W.heap.size + 1 < w2.heap.size := by omega
  have hz8 : w1.heap.size < w2.heap.size := by omega
  go_wp2_with (go_at_call 21; refine (quarter_any _ _ _ _ _).mono ?_; rintro e w' ⟨rfl, m, rfl⟩)
  cases t
  all_goals
    go_quiet (fail)
    go_wp2
    go_ret
    have B1 : Below W.heap.size W w1 := below_call (((Below.refl _ _).alloc (Nat.le_refl _) _).alloc (by simp) _) (by simp; omega) hb1
    have B2 : Below W.heap.size W w2 := below_call (B1.alloc (by omega) _) (by simp; omega) hb2
    exact ⟨rfl, below_drewN (below_drewN (B2.alloc (by omega) _) _) _⟩
end Go.Proofs.Ytjhpffenlhfilaa
