/- The steps that draw the numbers from one place of the stream to another: plain mathematics, and the walks of the reference's border and Nexts. -/
import Derived.Test.YtjhpffenlhfilaaRun
import Derived.Test.YtjhpffenlhfilaaWRun
namespace Go.Proofs.Ytjhpffenlhfilaa.Ch
open Go.RowKit Mem

/-- The first of a group of blocks. -/
def bord (k : Nat) : Bool := k % 124 == 0 || k % 124 == 32 || k % 124 == 64 || k % 124 == 96
/-- Whether a refill is wanted ahead of number k. -/
def wants (f : Nat) (fresh : Bool) (k : Nat) : Bool := decide (0 < k) && bord k && !(fresh && k == f && !(k % 124 == 0))
def nx1 (f : Nat) (fresh : Bool) (k : Nat) : List Int := if wants f fresh k = true then [1, 0] else [0]
/-- The steps of j numbers from f on. -/
def nx (f : Nat) (fresh : Bool) : Nat → List Int
  | 0 => []
  | j + 1 => nx f fresh j ++ nx1 f fresh (f + j)
def zeros (l : List Int) : Nat := l.countP fun s => decide (s = 0)
theorem zeros_append (l m : List Int) : zeros (l ++ m) = zeros l + zeros m := List.countP_append
theorem zeros_nx1 (f : Nat) (fresh : Bool) (k : Nat) : zeros (nx1 f fresh k) = 1 := by
  unfold nx1
  split <;> rfl
theorem zeros_nx (f : Nat) (fresh : Bool) (j : Nat) : zeros (nx f fresh j) = j := by
  induction j with
  | zero => rfl
  | succ j ih => show zeros (nx f fresh j ++ nx1 f fresh (f + j)) = _; rw [zeros_append, zeros_nx1, ih]
theorem nx1_length (f : Nat) (fresh : Bool) (k : Nat) : 1 ≤ (nx1 f fresh k).length ∧ (nx1 f fresh k).length ≤ 2 := by
  unfold nx1
  split <;> simp
theorem nx_length (f : Nat) (fresh : Bool) (j : Nat) : j ≤ (nx f fresh j).length ∧ (nx f fresh j).length ≤ 2 * j := by
  induction j with
  | zero => simp [nx]
  | succ j ih =>
    have h := nx1_length f fresh (f + j)
    have e : (nx f fresh (j + 1)).length = (nx f fresh j).length + (nx1 f fresh (f + j)).length := List.length_append
    omega

theorem in_group1 : ∀ r, r < 124 → r / 32 = 3 → r % 32 + 1 < 28 → r < 123 ∧ (r + 1) / 32 = 3 ∧ (r + 1) % 32 = r % 32 + 1 := by decide
theorem in_group2 : ∀ r, r < 124 → r / 32 = 3 → 28 ≤ r % 32 + 1 → r = 123 := by decide
theorem in_group3 : ∀ r, r < 124 → r / 32 ≠ 3 → r % 32 + 1 < 32 → r < 123 ∧ (r + 1) / 32 = r / 32 ∧ (r + 1) % 32 = r % 32 + 1 := by decide
theorem in_group4 : ∀ r, r < 124 → r / 32 ≠ 3 → 32 ≤ r % 32 + 1 → r < 123 ∧ (r + 1) / 32 = r / 32 + 1 ∧ (r + 1) % 32 = 0 ∧ r / 32 < 3 := by decide
theorem seeded_pos (s0 s1 s2 s3 : V) (k : Nat) : ((seeded s0 s1 s2 s3).it (k + 1)).g = (k % 124) / 32 ∧ ((seeded s0 s1 s2 s3).it (k + 1)).i = (k % 124) % 32 + 1 := by
  induction k with
  | zero => exact ⟨rfl, rfl⟩
  | succ k ih =>
    show (((seeded s0 s1 s2 s3).it (k + 1)).drawn).g = _ ∧ (((seeded s0 s1 s2 s3).it (k + 1)).drawn).i = _
    generalize (seeded s0 s1 s2 s3).it (k + 1) = y at ih
    obtain ⟨hg, hi⟩ := ih
    have hm : k % 124 < 124 := Nat.mod_lt _ (by decide)
    have c1 := in_group1 (k % 124) hm
    have c2 := in_group2 (k % 124) hm
    have c3 := in_group3 (k % 124) hm
    have c4 := in_group4 (k % 124) hm
    clear hm
    have hr : (k % 124 < 123 → (k + 1) % 124 = k % 124 + 1) ∧ (k % 124 = 123 → (k + 1) % 124 = 0) := by omega
    generalize (k + 1) % 124 = r' at hr
    generalize k % 124 = r at hg hi c1 c2 c3 c4 hr
    unfold G.drawn G.adv G.some_ G.n
    by_cases h3 : y.g = 3
    · rw [if_pos h3]
      by_cases h : y.i < 28
      · rw [if_pos h]
        obtain ⟨d1, d2, d3⟩ := c1 (by omega) (by omega)
        rw [hr.1 d1]
        exact ⟨by show y.g = _; omega, by show y.i + 1 = _; omega⟩
      · rw [if_neg h, hr.2 (c2 (by omega) (by omega))]
        unfold G.refill
        rw [if_neg (by omega)]
        exact ⟨rfl, rfl⟩
    · rw [if_neg h3]
      by_cases h : y.i < 32
      · rw [if_pos h]
        obtain ⟨d1, d2, d3⟩ := c3 (by omega) (by omega)
        rw [hr.1 d1]
        exact ⟨by show y.g = _; omega, by show y.i + 1 = _; omega⟩
      · rw [if_neg h]
        obtain ⟨d1, d2, d3, d4⟩ := c4 (by omega) (by omega)
        rw [hr.1 d1]
        unfold G.refill
        rw [if_pos (by omega)]
        exact ⟨by show y.g + 1 = _; omega, by show 0 + 1 = _; omega⟩

theorem bord_iff (k : Nat) : bord k = true ↔ (k % 124 = 0 ∨ k % 124 = 32 ∨ k % 124 = 64 ∨ k % 124 = 96) := by
  unfold bord
  simp only [Bool.or_eq_true, beq_iff_eq]
  omega
theorem at_border : ∀ r, r < 124 → (r / 32 = 3 → ((r + 1 = 124 ∨ r + 1 = 32 ∨ r + 1 = 64 ∨ r + 1 = 96) ↔ ¬ r % 32 + 1 < 28)) ∧ (r / 32 ≠ 3 → ((r + 1 = 124 ∨ r + 1 = 32 ∨ r + 1 = 64 ∨ r + 1 = 96) ↔ ¬ r % 32 + 1 < 32)) ∧
    ((r % 32 + 1 = 32 ∧ r / 32 < 3) ↔ (r + 1 = 32 ∨ r + 1 = 64 ∨ r + 1 = 96)) := by decide
theorem bord_succ (k : Nat) : bord (k + 1) = true ↔ (k % 124 + 1 = 124 ∨ k % 124 + 1 = 32 ∨ k % 124 + 1 = 64 ∨ k % 124 + 1 = 96) := by
  rw [bord_iff]
  omega
/-- A refill is wanted where the group is at its end. -/
theorem at_end (s0 s1 s2 s3 : V) (k : Nat) : (0 < k ∧ bord k = true) ↔ ¬ ((seeded s0 s1 s2 s3).it k).i < ((seeded s0 s1 s2 s3).it k).n := by
  cases k with
  | zero =>
    have h : ((seeded s0 s1 s2 s3).it 0).i < ((seeded s0 s1 s2 s3).it 0).n := by show 0 < 32; omega
    exact ⟨fun hc => absurd hc.1 (Nat.lt_irrefl _), fun hc => absurd h hc⟩
  | succ k =>
    obtain ⟨hg, hi⟩ := seeded_pos s0 s1 s2 s3 k
    obtain ⟨c1, c2, _⟩ := at_border (k % 124) (Nat.mod_lt _ (by decide))
    rw [bord_succ]
    generalize (seeded s0 s1 s2 s3).it (k + 1) = y at hg hi
    generalize k % 124 = r at hg hi c1 c2
    unfold G.n
    by_cases h3 : y.g = 3
    · rw [if_pos h3, hi, ← c1 (by omega)]; omega
    · rw [if_neg h3, hi, ← c2 (by omega)]; omega
theorem full_iff (s0 s1 s2 s3 : V) (k : Nat) : (((seeded s0 s1 s2 s3).it k).i = 32 ∧ ((seeded s0 s1 s2 s3).it k).g < 3) ↔ (0 < k ∧ bord k = true ∧ k % 124 ≠ 0) := by
  cases k with
  | zero =>
    have h : ((seeded s0 s1 s2 s3).it 0).i = 0 := rfl
    exact ⟨fun hc => by omega, fun hc => by omega⟩
  | succ k =>
    obtain ⟨hg, hi⟩ := seeded_pos s0 s1 s2 s3 k
    obtain ⟨_, _, c3⟩ := at_border (k % 124) (Nat.mod_lt _ (by decide))
    rw [bord_succ, hi, hg, c3]
    omega

theorem run_10 (y : G) (h : ¬ y.i < y.n) : y.run [1, 0] = y.drawn ∧ (y.run [1]).stepK 0 = true ∧ (y.run [1]).stepV 0 = y.told := by
  have e : y.some_ = y.refill := if_neg h
  have hl := y.refill_lt
  refine ⟨?_, ?_, ?_⟩
  · show (if y.refill.i < y.refill.n then y.refill.adv else y.refill) = _
    unfold G.drawn
    rw [if_pos hl, e]
  · show decide (y.refill.i < y.refill.n) = true
    exact decide_eq_true hl
  · show (if (0 : Int) = 0 ∧ y.refill.i < y.refill.n then y.refill.val else 0) = _
    unfold G.told
    rw [if_pos ⟨rfl, hl⟩, e]
theorem run_0 (y : G) (h : y.i < y.n) : y.run [0] = y.drawn ∧ y.stepK 0 = true ∧ y.stepV 0 = y.told := by
  have e : y.some_ = y := if_pos h
  refine ⟨?_, ?_, ?_⟩
  · show (if y.i < y.n then y.adv else y) = _
    unfold G.drawn
    rw [if_pos h, e]
  · show decide (y.i < y.n) = true
    exact decide_eq_true h
  · show (if (0 : Int) = 0 ∧ y.i < y.n then y.val else 0) = _
    unfold G.told
    rw [if_pos ⟨rfl, h⟩, e]
/-- One number: the state behind, and what is told. -/
theorem run_nx1 (s0 s1 s2 s3 : V) (f : Nat) (fresh : Bool) (k : Nat) (h : wants f fresh k = (decide (0 < k) && bord k)) :
    ((seeded s0 s1 s2 s3).it k).run (nx1 f fresh k) = (seeded s0 s1 s2 s3).it (k + 1) ∧
    ∀ i, i < (nx1 f fresh k).length → (nx1 f fresh k).getD i 0 = 1 ∨ ((nx1 f fresh k).getD i 0 = 0 ∧ zeros ((nx1 f fresh k).take i) = 0 ∧
      (((seeded s0 s1 s2 s3).it k).run ((nx1 f fresh k).take i)).stepK 0 = true ∧ (((seeded s0 s1 s2 s3).it k).run ((nx1 f fresh k).take i)).stepV 0 = (seeded s0 s1 s2 s3).nth k) := by
  unfold nx1 G.nth
  show _ = ((seeded s0 s1 s2 s3).it k).drawn ∧ _
  have ha := at_end s0 s1 s2 s3 k
  generalize (seeded s0 s1 s2 s3).it k = y at ha
  rw [h]
  by_cases hw : 0 < k ∧ bord k = true
  · rw [if_pos (by simp [hw.1, hw.2])]
    obtain ⟨r1, r2, r3⟩ := run_10 y (ha.1 hw)
    refine ⟨r1, fun i hi => ?_⟩
    match i, hi with
    | 0, _ => exact .inl rfl
    | 1, _ => exact .inr ⟨rfl, rfl, r2, r3⟩
  · have hlt : y.i < y.n := Classical.byContradiction fun hc => hw (ha.2 hc)
    obtain ⟨r1, r2, r3⟩ := run_0 y hlt
    rw [if_neg (by simpa using hw)]
    refine ⟨r1, fun i hi => ?_⟩
    match i, hi with
    | 0, _ => exact .inr ⟨rfl, rfl, r2, r3⟩
theorem wants_stale (f k : Nat) : wants f false k = (decide (0 < k) && bord k) := by simp [wants]
theorem wants_later (f k : Nat) (fresh : Bool) (h : f < k) : wants f fresh k = (decide (0 < k) && bord k) := by
  have : (k == f) = false := beq_eq_false_iff_ne.2 (by omega)
  simp [wants, this]
theorem run_nx (s0 s1 s2 s3 : V) (j : Nat) : (seeded s0 s1 s2 s3).run (nx 0 false j) = (seeded s0 s1 s2 s3).it j := by
  induction j with
  | zero => rfl
  | succ j ih =>
    show (seeded s0 s1 s2 s3).run (nx 0 false j ++ nx1 0 false (0 + j)) = _
    rw [G.run_append, ih, Nat.zero_add]
    exact (run_nx1 s0 s1 s2 s3 0 false j (wants_stale 0 j)).1

/-- The first number behind a state that was marshaled and unmarshaled. -/
theorem run_first (s0 s1 s2 s3 : V) (n : Nat) :
    ((seeded s0 s1 s2 s3).it n).full.run (nx1 n true n) = (seeded s0 s1 s2 s3).it (n + 1) ∧
    ∀ i, i < (nx1 n true n).length → (nx1 n true n).getD i 0 = 1 ∨ ((nx1 n true n).getD i 0 = 0 ∧ zeros ((nx1 n true n).take i) = 0 ∧
      (((seeded s0 s1 s2 s3).it n).full.run ((nx1 n true n).take i)).stepK 0 = true ∧ (((seeded s0 s1 s2 s3).it n).full.run ((nx1 n true n).take i)).stepV 0 = (seeded s0 s1 s2 s3).nth n) := by
  by_cases hf : 0 < n ∧ bord n = true ∧ n % 124 ≠ 0
  · have hw : wants n true n = false := by
      have h0 : (n % 124 == 0) = false := beq_eq_false_iff_ne.2 hf.2.2
      simp [wants, h0]
    have he := (at_end s0 s1 s2 s3 n).1 ⟨hf.1, hf.2.1⟩
    have hfu := (full_iff s0 s1 s2 s3 n).2 hf
    unfold nx1 G.nth
    show _ = ((seeded s0 s1 s2 s3).it n).drawn ∧ _
    generalize (seeded s0 s1 s2 s3).it n = y at he hfu
    have e1 : y.full = y.refill := if_pos hfu
    rw [if_neg (by rw [hw]; simp), e1]
    obtain ⟨r1, r2, r3⟩ := run_10 y he
    refine ⟨r1, fun i hi => ?_⟩
    match i, hi with
    | 0, _ => exact .inr ⟨rfl, rfl, r2, r3⟩
  · have e1 : ((seeded s0 s1 s2 s3).it n).full = (seeded s0 s1 s2 s3).it n := if_neg fun hc => hf ((full_iff s0 s1 s2 s3 n).1 hc)
    rw [e1]
    refine run_nx1 s0 s1 s2 s3 n true n ?_
    unfold wants
    by_cases h1 : 0 < n ∧ bord n = true
    · have h0 : n % 124 = 0 := Classical.byContradiction fun hc => hf ⟨h1.1, h1.2, hc⟩
      simp [h0]
    · have h2 : (decide (0 < n) && bord n) = false := by simpa using h1
      rw [h2]; rfl

theorem take_app (l m : List Int) (i : Nat) (h : l.length ≤ i) : (l ++ m).take i = l ++ m.take (i - l.length) := by
  rw [List.take_append, List.take_of_length_le h]
theorem getD_app (l m : List Int) (i : Nat) (h : l.length ≤ i) : (l ++ m).getD i 0 = m.getD (i - l.length) 0 := by
  rw [List.getD_eq_getElem?_getD, List.getElem?_append_right h, ← List.getD_eq_getElem?_getD]

/-- Behind a state that was marshaled and unmarshaled: every step is a refill, or tells the next number. -/
theorem run_behind (s0 s1 s2 s3 : V) (n : Nat) (j : Nat) :
    ((j = 0 ∧ nx n true j = []) ∨ (0 < j ∧ ((seeded s0 s1 s2 s3).it n).full.run (nx n true j) = (seeded s0 s1 s2 s3).it (n + j))) ∧
    ∀ i, i < (nx n true j).length → (nx n true j).getD i 0 = 1 ∨ ((nx n true j).getD i 0 = 0 ∧ zeros ((nx n true j).take i) < j ∧
      (((seeded s0 s1 s2 s3).it n).full.run ((nx n true j).take i)).stepK 0 = true ∧ (((seeded s0 s1 s2 s3).it n).full.run ((nx n true j).take i)).stepV 0 = (seeded s0 s1 s2 s3).nth (n + zeros ((nx n true j).take i))) := by
  induction j with
  | zero => exact ⟨.inl ⟨rfl, rfl⟩, fun i hi => by simp [nx] at hi⟩
  | succ j ih =>
    obtain ⟨hs, hk⟩ := ih
    have hz := zeros_nx n true j
    have hnx : nx n true (j + 1) = nx n true j ++ nx1 n true (n + j) := rfl
    rw [hnx]
    have hone : (((seeded s0 s1 s2 s3).it n).full.run (nx n true j)).run (nx1 n true (n + j)) = (seeded s0 s1 s2 s3).it (n + (j + 1)) ∧
        ∀ i, i < (nx1 n true (n + j)).length → (nx1 n true (n + j)).getD i 0 = 1 ∨ ((nx1 n true (n + j)).getD i 0 = 0 ∧ zeros ((nx1 n true (n + j)).take i) = 0 ∧
          ((((seeded s0 s1 s2 s3).it n).full.run (nx n true j)).run ((nx1 n true (n + j)).take i)).stepK 0 = true ∧ ((((seeded s0 s1 s2 s3).it n).full.run (nx n true j)).run ((nx1 n true (n + j)).take i)).stepV 0 = (seeded s0 s1 s2 s3).nth (n + j)) := by
      rcases hs with ⟨rfl, _⟩ | ⟨h0, hs⟩
      · exact run_first s0 s1 s2 s3 n
      · rw [hs]
        exact run_nx1 s0 s1 s2 s3 n true (n + j) (wants_later n (n + j) true (by omega))
    obtain ⟨o1, o2⟩ := hone
    refine ⟨.inr ⟨by omega, by rw [G.run_append]; exact o1⟩, fun i hi => ?_⟩
    by_cases hlt : i < (nx n true j).length
    · have e1 : (nx n true j ++ nx1 n true (n + j)).take i = (nx n true j).take i := List.take_append_of_le_length (by omega)
      have e2 : (nx n true j ++ nx1 n true (n + j)).getD i 0 = (nx n true j).getD i 0 := by
        rw [List.getD_eq_getElem?_getD, List.getElem?_append_left hlt, ← List.getD_eq_getElem?_getD]
      rw [e1, e2]
      rcases hk i hlt with h | ⟨h1, h2, h3, h4⟩
      · exact .inl h
      · exact .inr ⟨h1, by omega, h3, h4⟩
    · have hge : (nx n true j).length ≤ i := by omega
      rw [take_app _ _ _ hge, getD_app _ _ _ hge, zeros_append, hz, G.run_append]
      rcases o2 (i - (nx n true j).length) (by rw [List.length_append] at hi; omega) with h | ⟨h1, h2, h3, h4⟩
      · exact .inl h
      · rw [h2]
        exact .inr ⟨h1, by omega, h3, h4⟩

/-- The state of n numbers that is reseeded. -/
theorem reseed_it (s0 s1 s2 s3 : V) (n : Nat) : (seeded s0 s1 s2 s3).run (nx 0 false n ++ [2]) =
    seeded ((seeded s0 s1 s2 s3).nth n) ((seeded s0 s1 s2 s3).nth (n + 1)) ((seeded s0 s1 s2 s3).nth (n + 2)) ((seeded s0 s1 s2 s3).nth (n + 3)) := by
  rw [G.run_append, run_nx]
  rfl

theorem info_i64 : (Try.prog.info? 3).map (fun i => (i.zero, i.size, i.bytes)) = some (some (.int .i64 0), 1, 8) := by kernel_rfl

set_option maxRecDepth 100000 in
set_option maxHeartbeats 2000000 in
theorem border_any (k : Nat) (w : World) :
    Calls Try.prog 49 #[.int .i64 (k : Int)] w fun e w' => e = .returned (.bool (bord k)) ∧ w' = w := by
  obtain ⟨r, hr⟩ : ∃ r, r = k % 124 := ⟨_, rfl⟩
  have v : (k : Int).tmod 124 = (r : Int) := by rw [Int.tmod_eq_emod_of_nonneg (by omega)]; omega
  have hb : bord k = (r == 0 || r == 32 || r == 64 || r == 96) := by unfold bord; rw [hr]
  rw [hb]
  clear hr hb
  by_cases h0 : r = 0
  · subst h0
    go_enter Try.func49, Try.ntmps49
    go_wp2
    go_ret
    exact ⟨rfl, rfl⟩
  have n0 : (r : Int) ≠ 0 := by omega
  have b0 : ((r : Int) == 0) = false := beq_eq_false_iff_ne.2 n0
  have d0 : decide ((r : Int) = 0) = false := decide_eq_false n0
  by_cases h32 : r = 32
  · subst h32
    go_enter Try.func49, Try.ntmps49
    go_wp2
    go_ret
    exact ⟨rfl, rfl⟩
  have n32 : (r : Int) ≠ 32 := by omega
  have b32 : ((r : Int) == 32) = false := beq_eq_false_iff_ne.2 n32
  have d32 : decide ((r : Int) = 32) = false := decide_eq_false n32
  by_cases h64 : r = 64
  · subst h64
    go_enter Try.func49, Try.ntmps49
    go_wp2
    go_ret
    exact ⟨rfl, rfl⟩
  have n64 : (r : Int) ≠ 64 := by omega
  have b64 : ((r : Int) == 64) = false := beq_eq_false_iff_ne.2 n64
  have d64 : decide ((r : Int) = 64) = false := decide_eq_false n64
  by_cases h96 : r = 96
  · subst h96
    go_enter Try.func49, Try.ntmps49
    go_wp2
    go_ret
    exact ⟨rfl, rfl⟩
  have n96 : (r : Int) ≠ 96 := by omega
  have b96 : ((r : Int) == 96) = false := beq_eq_false_iff_ne.2 n96
  have d96 : decide ((r : Int) = 96) = false := decide_eq_false n96
  have hf : (r == 0 || r == 32 || r == 64 || r == 96) = false := by simp [h0, h32, h64, h96]
  rw [hf]
  clear hf h0 h32 h64 h96
  go_enter Try.func49, Try.ntmps49
  go_wp2
  go_ret
  exact ⟨rfl, rfl⟩

/-! walk -/
theorem steps64_app (l m : List Int) : steps64 (l ++ m) = steps64 l ++ steps64 m := by simp [steps64]

set_option maxRecDepth 100000 in
set_option maxHeartbeats 4000000 in
theorem nexts_any (f j m : Nat) (fresh : Bool) (hf : f ≤ 1000) (hj : j ≤ 1000) (hm : m = f + j) (w : World) :
    Calls Try.prog 27 #[.int .i64 (f : Int), .int .i64 (m : Int), .bool fresh] w fun e w' =>
      ∃ v, e = .returned v ∧ w'.ownsRow w.heap.size 3 1 v (nx f fresh j).length (steps64 (nx f fresh j)) ∧ Below w.heap.size w w' := by
  obtain ⟨i0, hi0, hz0, hz1, hz2⟩ := info_parts info_i64
  have hown0 : (w.alloc (.cells #[] 3)).ownsRow w.heap.size 3 1 (.slice (some ⟨w.heap.size, 0, none⟩) 0 0) 0 [] := World.ownsRow_lit w #[] 0 (Nat.le_refl _) (by unfold maxLen; omega) rfl
  have hb0 : Below w.heap.size w (w.alloc (.cells #[] 3)) := (Below.refl _ _).alloc (Nat.le_refl _) _
  have CB := Lib.hid (fun k w => border_any k w)
  have hm2 : m ≤ 2000 := by omega
  have HM := Lib.hid hm
  clear hm
  go_enter Try.func27, Try.ntmps27
  go_wp2_with fail
  go_loopw [7, 8] (fun out i wr => ∃ d k len : Nat, d ≤ j ∧ k = f + d ∧ i = .int .i64 (k : Int) ∧ len = (nx f fresh d).length ∧ wr.ownsRow w.heap.size 3 1 out len (steps64 (nx f fresh d)) ∧ Below w.heap.size w wr) (fun _ i _ => m - (intOf i).toNat)
  case atStart => exact ⟨0, f, 0, Nat.zero_le _, rfl, rfl, rfl, hown0, hb0⟩
  case round =>
    clear hown0 hb0
    obtain ⟨d, k, len, hd, hk, rfl, hln, hown, hbel⟩ := hrel
    have hk2 : k ≤ 2000 := by have := HM.out; omega
    have hlen := (nx_length f fresh d).2
    rw [← hln] at hlen
    by_cases hlt : k < m
    · have hlt' : (k : Int) < (m : Int) := by omega
      have hnx : nx f fresh (d + 1) = nx f fresh d ++ nx1 f fresh k := by rw [hk]; rfl
      have CBk := Lib.hid (fun w => CB.out k w)
      have HK := Lib.hid hk
      clear hk
      by_cases h0 : k = 0
      · have hk0 : (k : Int) ≤ 0 := by omega
        have hn1 : nx f fresh (d + 1) = nx f fresh d ++ [0] := by rw [hnx, nx1, if_neg (by simp [wants, h0])]
        have HNX := Lib.hid hn1
        clear hnx hn1
        have HLN := Lib.hid hln
        clear hln
        obtain ⟨L, hL⟩ : ∃ L, L = steps64 (nx f fresh d) := ⟨_, rfl⟩
        rw [← hL] at hown
        have HL := Lib.hid hL
        clear hL
        go_wp2_with (first
          | (at_builtin; refine wpList_append_any _ rfl (.tmp 39) (.tmp 40) _ rfl w.heap.size 3 i0 _ 1 8 Try.underlying31 hi0 hz0 hz1 hz2 rfl (by omega) _ len L rfl (World.ownsRow.alloc hown _) (wr.heap.size + 1) (some ⟨wr.heap.size, 0, none⟩) 1 1 [.int .i64 0] rfl (new_one wr _ _) (by simp [Value.oneCell']) (by simp only [maxLen]; omega) (by omega) (by have := hbel.size; simp; omega) ?_; intro v7 w7 hown7 hg7 hat7))
        go_roundw
        case rel => exact ⟨d + 1, k + 1, len + 1, (by have := HK.out; have := HM.out; omega), (by have := HK.out; omega), by go_num, (by rw [HNX.out, List.length_append, ← HLN.out]; rfl), (by rw [HNX.out, steps64_app, ← HL.out]; simpa [steps64] using hown7), (hbel.alloc hbel.size _).grown hg7 (by have := hbel.size; simp; omega) (own_base (World.ownsRow.alloc hown (.cells #[.int .i64 0] 3)))⟩
        case measure => simp [intOf]; omega
      · have h0' : 0 < k := by omega
        have hk0 : (0 : Int) < (k : Int) := by omega
        obtain ⟨r, hr⟩ : ∃ r, r = k % 124 := ⟨_, rfl⟩
        have v : (k : Int).tmod 124 = (r : Int) := by rw [Int.tmod_eq_emod_of_nonneg (by omega)]; omega
        by_cases hb : bord k = true
        · rw [hb] at CBk
          cases fresh with
          | false =>
            have hn1 : nx f false (d + 1) = nx f false d ++ [1, 0] := by rw [hnx, nx1, if_pos (by simp [wants, h0', hb])]
            have HNX := Lib.hid hn1
            clear hnx hn1
            have HLN := Lib.hid hln
            clear hln
            obtain ⟨L, hL⟩ : ∃ L, L = steps64 (nx f false d) := ⟨_, rfl⟩
            rw [← hL] at hown
            have HL := Lib.hid hL
            clear hL
            go_wp2_with (first
              | (have hh := hown5; clear hh; at_builtin; refine wpList_append_any _ rfl (.tmp 39) (.tmp 40) _ rfl w.heap.size 3 i0 _ 1 8 Try.underlying31 hi0 hz0 hz1 hz2 rfl (by omega) _ (len + 1) (L ++ [.int .i64 1]) rfl (World.ownsRow.alloc hown5 _) (w5.heap.size + 1) (some ⟨w5.heap.size, 0, none⟩) 1 1 [.int .i64 0] rfl (new_one w5 _ _) (by simp [Value.oneCell']) (by simp only [maxLen]; omega) (by omega) (by have := hb5.size; simp; omega) ?_; intro v7 w7 hown7 hg7 hat7)
              | (at_builtin; refine wpList_append_any _ rfl (.tmp 36) (.tmp 37) _ rfl w.heap.size 3 i0 _ 1 8 Try.underlying31 hi0 hz0 hz1 hz2 rfl (by omega) _ len L rfl (World.ownsRow.alloc hown _) (wr.heap.size + 1) (some ⟨wr.heap.size, 0, none⟩) 1 1 [.int .i64 1] rfl (new_one wr _ _) (by simp [Value.oneCell']) (by simp only [maxLen]; omega) (by omega) (by have := hbel.size; simp; omega) ?_; intro v5 w5 hown5 hg5 hat5; have hb5 := (hbel.alloc hbel.size _).grown hg5 (by have := hbel.size; simp; omega) (own_base (World.ownsRow.alloc hown (.cells #[.int .i64 1] 3))))
              | (go_at_call 49; refine (CBk.out _).mono ?_; rintro e wq ⟨rfl, hw⟩; obtain rfl : wr = wq := hw.symm))
            go_roundw
            case rel => exact ⟨d + 1, k + 1, len + 2, (by have := HK.out; have := HM.out; omega), (by have := HK.out; omega), by go_num, (by rw [HNX.out, List.length_append, ← HLN.out]; rfl), (by rw [HNX.out, steps64_app, ← HL.out]; simpa [steps64] using hown7), (hb5.alloc hb5.size _).grown hg7 (by have := hb5.size; simp; omega) (own_base (World.ownsRow.alloc hown5 (.cells #[.int .i64 0] 3)))⟩
            case measure => simp [intOf]; omega
          | true =>
            by_cases hkf : k = f
            · by_cases hr0 : r = 0
              · have v0 : (k : Int).tmod 124 = 0 := by rw [v, hr0]; rfl
                have hr0' : k % 124 = 0 := by omega
                clear v
                subst hkf
                have hn1 : nx k true (d + 1) = nx k true d ++ [1, 0] := by rw [hnx, nx1, if_pos (by simp [wants, h0', hb, hr0'])]
                have HNX := Lib.hid hn1
                clear hnx hn1
                have HLN := Lib.hid hln
                clear hln
                obtain ⟨L, hL⟩ : ∃ L, L = steps64 (nx k true d) := ⟨_, rfl⟩
                rw [← hL] at hown
                have HL := Lib.hid hL
                clear hL
                go_wp2_with (first
                  | (have hh := hown5; clear hh; at_builtin; refine wpList_append_any _ rfl (.tmp 39) (.tmp 40) _ rfl w.heap.size 3 i0 _ 1 8 Try.underlying31 hi0 hz0 hz1 hz2 rfl (by omega) _ (len + 1) (L ++ [.int .i64 1]) rfl (World.ownsRow.alloc hown5 _) (w5.heap.size + 1) (some ⟨w5.heap.size, 0, none⟩) 1 1 [.int .i64 0] rfl (new_one w5 _ _) (by simp [Value.oneCell']) (by simp only [maxLen]; omega) (by omega) (by have := hb5.size; simp; omega) ?_; intro v7 w7 hown7 hg7 hat7)
                  | (at_builtin; refine wpList_append_any _ rfl (.tmp 36) (.tmp 37) _ rfl w.heap.size 3 i0 _ 1 8 Try.underlying31 hi0 hz0 hz1 hz2 rfl (by omega) _ len L rfl (World.ownsRow.alloc hown _) (wr.heap.size + 1) (some ⟨wr.heap.size, 0, none⟩) 1 1 [.int .i64 1] rfl (new_one wr _ _) (by simp [Value.oneCell']) (by simp only [maxLen]; omega) (by omega) (by have := hbel.size; simp; omega) ?_; intro v5 w5 hown5 hg5 hat5; have hb5 := (hbel.alloc hbel.size _).grown hg5 (by have := hbel.size; simp; omega) (own_base (World.ownsRow.alloc hown (.cells #[.int .i64 1] 3))))
                  | (go_at_call 49; refine (CBk.out _).mono ?_; rintro e wq ⟨rfl, hw⟩; obtain rfl : wr = wq := hw.symm))
                go_roundw
                case rel => exact ⟨d + 1, k + 1, len + 2, (by have := HK.out; have := HM.out; omega), (by have := HK.out; omega), by go_num, (by rw [HNX.out, List.length_append, ← HLN.out]; rfl), (by rw [HNX.out, steps64_app, ← HL.out]; simpa [steps64] using hown7), (hb5.alloc hb5.size _).grown hg7 (by have := hb5.size; simp; omega) (own_base (World.ownsRow.alloc hown5 (.cells #[.int .i64 0] 3)))⟩
                case measure => simp [intOf]; omega
              · have n2 : (r : Int) ≠ 0 := by omega
                have b2 : ((r : Int) == 0) = false := beq_eq_false_iff_ne.2 n2
                have d2 : decide ((r : Int) = 0) = false := decide_eq_false n2
                have b3 : ((r : Int) != 0) = true := by rw [bne, b2]; rfl
                have HR0 := Lib.hid (show (k % 124 == 0) = false from beq_eq_false_iff_ne.2 (by omega))
                clear hr
                subst hkf
                have hn1 : nx k true (d + 1) = nx k true d ++ [0] := by rw [hnx, nx1, if_neg (by simp [wants, h0', hb, HR0.out])]
                have HNX := Lib.hid hn1
                clear hnx hn1
                have HLN := Lib.hid hln
                clear hln
                obtain ⟨L, hL⟩ : ∃ L, L = steps64 (nx k true d) := ⟨_, rfl⟩
                rw [← hL] at hown
                have HL := Lib.hid hL
                clear hL
                go_wp2_with (first
                  | (at_builtin; refine wpList_append_any _ rfl (.tmp 39) (.tmp 40) _ rfl w.heap.size 3 i0 _ 1 8 Try.underlying31 hi0 hz0 hz1 hz2 rfl (by omega) _ len L rfl (World.ownsRow.alloc hown _) (wr.heap.size + 1) (some ⟨wr.heap.size, 0, none⟩) 1 1 [.int .i64 0] rfl (new_one wr _ _) (by simp [Value.oneCell']) (by simp only [maxLen]; omega) (by omega) (by have := hbel.size; simp; omega) ?_; intro v7 w7 hown7 hg7 hat7)
                  | (go_at_call 49; refine (CBk.out _).mono ?_; rintro e wq ⟨rfl, hw⟩; obtain rfl : wr = wq := hw.symm))
                go_roundw
                case rel => exact ⟨d + 1, k + 1, len + 1, (by have := HK.out; have := HM.out; omega), (by have := HK.out; omega), by go_num, (by rw [HNX.out, List.length_append, ← HLN.out]; rfl), (by rw [HNX.out, steps64_app, ← HL.out]; simpa [steps64] using hown7), (hbel.alloc hbel.size _).grown hg7 (by have := hbel.size; simp; omega) (own_base (World.ownsRow.alloc hown (.cells #[.int .i64 0] 3)))⟩
                case measure => simp [intOf]; omega
            · have n1 : (k : Int) ≠ (f : Int) := by omega
              have b1 : ((k : Int) == (f : Int)) = false := beq_eq_false_iff_ne.2 n1
              have d1 : decide ((k : Int) = (f : Int)) = false := decide_eq_false n1
              have hkf' : (k == f) = false := beq_eq_false_iff_ne.2 hkf
              have hn1 : nx f true (d + 1) = nx f true d ++ [1, 0] := by rw [hnx, nx1, if_pos (by simp [wants, h0', hb, hkf'])]
              have HNX := Lib.hid hn1
              clear hnx hn1
              have HLN := Lib.hid hln
              clear hln
              obtain ⟨L, hL⟩ : ∃ L, L = steps64 (nx f true d) := ⟨_, rfl⟩
              rw [← hL] at hown
              have HL := Lib.hid hL
              clear hL
              go_wp2_with (first
                | (have hh := hown5; clear hh; at_builtin; refine wpList_append_any _ rfl (.tmp 39) (.tmp 40) _ rfl w.heap.size 3 i0 _ 1 8 Try.underlying31 hi0 hz0 hz1 hz2 rfl (by omega) _ (len + 1) (L ++ [.int .i64 1]) rfl (World.ownsRow.alloc hown5 _) (w5.heap.size + 1) (some ⟨w5.heap.size, 0, none⟩) 1 1 [.int .i64 0] rfl (new_one w5 _ _) (by simp [Value.oneCell']) (by simp only [maxLen]; omega) (by omega) (by have := hb5.size; simp; omega) ?_; intro v7 w7 hown7 hg7 hat7)
                | (at_builtin; refine wpList_append_any _ rfl (.tmp 36) (.tmp 37) _ rfl w.heap.size 3 i0 _ 1 8 Try.underlying31 hi0 hz0 hz1 hz2 rfl (by omega) _ len L rfl (World.ownsRow.alloc hown _) (wr.heap.size + 1) (some ⟨wr.heap.size, 0, none⟩) 1 1 [.int .i64 1] rfl (new_one wr _ _) (by simp [Value.oneCell']) (by simp only [maxLen]; omega) (by omega) (by have := hbel.size; simp; omega) ?_; intro v5 w5 hown5 hg5 hat5; have hb5 := (hbel.alloc hbel.size _).grown hg5 (by have := hbel.size; simp; omega) (own_base (World.ownsRow.alloc hown (.cells #[.int .i64 1] 3))))
                | (go_at_call 49; refine (CBk.out _).mono ?_; rintro e wq ⟨rfl, hw⟩; obtain rfl : wr = wq := hw.symm))
              go_roundw
              case rel => exact ⟨d + 1, k + 1, len + 2, (by have := HK.out; have := HM.out; omega), (by have := HK.out; omega), by go_num, (by rw [HNX.out, List.length_append, ← HLN.out]; rfl), (by rw [HNX.out, steps64_app, ← HL.out]; simpa [steps64] using hown7), (hb5.alloc hb5.size _).grown hg7 (by have := hb5.size; simp; omega) (own_base (World.ownsRow.alloc hown5 (.cells #[.int .i64 0] 3)))⟩
              case measure => simp [intOf]; omega
        · have hb' : bord k = false := by simpa using hb
          rw [hb'] at CBk
          have hn1 : nx f fresh (d + 1) = nx f fresh d ++ [0] := by rw [hnx, nx1, if_neg (by simp [wants, h0', hb'])]
          have HNX := Lib.hid hn1
          clear hnx hn1
          have HLN := Lib.hid hln
          clear hln
          obtain ⟨L, hL⟩ : ∃ L, L = steps64 (nx f fresh d) := ⟨_, rfl⟩
          rw [← hL] at hown
          have HL := Lib.hid hL
          clear hL
          go_wp2_with (first
            | (at_builtin; refine wpList_append_any _ rfl (.tmp 39) (.tmp 40) _ rfl w.heap.size 3 i0 _ 1 8 Try.underlying31 hi0 hz0 hz1 hz2 rfl (by omega) _ len L rfl (World.ownsRow.alloc hown _) (wr.heap.size + 1) (some ⟨wr.heap.size, 0, none⟩) 1 1 [.int .i64 0] rfl (new_one wr _ _) (by simp [Value.oneCell']) (by simp only [maxLen]; omega) (by omega) (by have := hbel.size; simp; omega) ?_; intro v7 w7 hown7 hg7 hat7)
            | (go_at_call 49; refine (CBk.out _).mono ?_; rintro e wq ⟨rfl, hw⟩; obtain rfl : wr = wq := hw.symm))
          go_roundw
          case rel => exact ⟨d + 1, k + 1, len + 1, (by have := HK.out; have := HM.out; omega), (by have := HK.out; omega), by go_num, (by rw [HNX.out, List.length_append, ← HLN.out]; rfl), (by rw [HNX.out, steps64_app, ← HL.out]; simpa [steps64] using hown7), (hbel.alloc hbel.size _).grown hg7 (by have := hbel.size; simp; omega) (own_base (World.ownsRow.alloc hown (.cells #[.int .i64 0] 3)))⟩
          case measure => simp [intOf]; omega
    · have hge : (m : Int) ≤ (k : Int) := by omega
      obtain rfl : d = j := by have := HM.out; omega
      go_wp2_with fail
      go_ret
      rw [hln] at hown
      exact ⟨_, rfl, hown, hbel⟩
end Go.Proofs.Ytjhpffenlhfilaa.Ch
