/- Plain mathematics: the numbers that a state tells, one behind the other. -/
import Derived.Test.YtjhpffenlhfilaaSt
namespace Go.Proofs.Ytjhpffenlhfilaa.Ch

/-- The state behind k numbers. -/
def G.it (x : G) : Nat → G
  | 0 => x
  | k + 1 => (x.it k).drawn
def G.nth (x : G) (k : Nat) : V := (x.it k).told
def G.list (x : G) (n : Nat) : List V := (List.range n).map x.nth
theorem G.list_length (x : G) (n : Nat) : (x.list n).length = n := by simp [G.list]
theorem G.list_succ (x : G) (n : Nat) : x.list (n + 1) = x.list n ++ [x.nth n] := by simp [G.list, List.range_succ]
theorem G.list_get (x : G) (n k : Nat) (h : k < n) : (x.list n).getD k 0 = x.nth k := by
  unfold G.list
  rw [List.getD_eq_getElem?_getD, List.getElem?_map, List.getElem?_range h]
  rfl
theorem G.it_ok {x : G} (h : x.ok) (k : Nat) : (x.it k).ok := by
  induction k with
  | zero => exact h
  | succ k ih => exact G.drawn_ok ih
theorem G.it_add (x : G) (j k : Nat) : x.it (j + k) = (x.it j).it k := by
  induction k with
  | zero => rfl
  | succ k ih => show (x.it (j + k)).drawn = _; rw [ih]; rfl
theorem G.nth_add (x : G) (j k : Nat) : x.nth (j + k) = (x.it j).nth k := by unfold G.nth; rw [G.it_add]

/-- Within a group: no refill is wanted. -/
theorem G.it_in (x : G) (k : Nat) (h : x.i + k ≤ x.n) : x.it k = { x with i := x.i + k } := by
  induction k with
  | zero => rfl
  | succ k ih =>
    show (x.it k).drawn = _
    rw [ih (by omega)]
    have hn : G.n { x with i := x.i + k } = x.n := rfl
    have : G.some_ { x with i := x.i + k } = { x with i := x.i + k } := if_pos (by rw [hn]; show x.i + k < x.n; omega)
    unfold G.drawn
    rw [this]
    rfl
theorem G.nth_in (x : G) (k : Nat) (h : x.i + k < x.n) : x.nth k = x.buf.getD (x.i + k) 0 := by
  unfold G.nth
  rw [G.it_in x k (by omega)]
  have hn : G.n { x with i := x.i + k } = x.n := rfl
  have : G.some_ { x with i := x.i + k } = { x with i := x.i + k } := if_pos (by rw [hn]; show x.i + k < x.n; omega)
  unfold G.told
  rw [this]
  rfl
/-- Only the group's end makes a difference: at the end, the next number is the refilled one's. -/
theorem G.it_end (x : G) (h : ¬ x.i < x.n) (k : Nat) : x.it (k + 1) = x.refill.it (k + 1) := by
  induction k with
  | zero =>
    show x.drawn = x.refill.drawn
    unfold G.drawn
    have h1 : x.some_ = x.refill := if_neg h
    have h2 : x.refill.some_ = x.refill := if_pos x.refill_lt
    rw [h1, h2]
  | succ k ih =>
    show (x.it (k + 1)).drawn = (x.refill.it (k + 1)).drawn
    rw [ih]
theorem G.nth_end (x : G) (h : ¬ x.i < x.n) (k : Nat) : x.nth k = x.refill.nth k := by
  cases k with
  | zero =>
    show x.told = x.refill.told
    unfold G.told
    have h1 : x.some_ = x.refill := if_neg h
    have h2 : x.refill.some_ = x.refill := if_pos x.refill_lt
    rw [h1, h2]
  | succ k => unfold G.nth; rw [G.it_end x h k]

/-- A whole group drawn. -/
theorem G.nth_group (x : G) (hi : x.i = 0) (k : Nat) : x.nth (x.n + k) = x.refill.nth k := by
  rw [G.nth_add, G.it_in x x.n (by omega)]
  rw [G.nth_end _ (by show ¬ (x.i + x.n < G.n { x with i := x.i + x.n }); have : G.n { x with i := x.i + x.n } = x.n := rfl; rw [this]; omega)]
  rfl

/-- Behind 124 numbers of a seed: the stream of the last four of the fourth group. -/
theorem seeded_iter (s0 s1 s2 s3 : V) (k : Nat) :
    (seeded s0 s1 s2 s3).nth (124 + k) =
      (seeded ((blockL s0 s1 s2 s3 12).getD 28 0) ((blockL s0 s1 s2 s3 12).getD 29 0) ((blockL s0 s1 s2 s3 12).getD 30 0) ((blockL s0 s1 s2 s3 12).getD 31 0)).nth k := by
  have r1 : (seeded s0 s1 s2 s3).refill = ⟨s0, s1, s2, s3, 1, 0⟩ := rfl
  have r2 : G.refill ⟨s0, s1, s2, s3, 1, 0⟩ = ⟨s0, s1, s2, s3, 2, 0⟩ := rfl
  have r3 : G.refill ⟨s0, s1, s2, s3, 2, 0⟩ = ⟨s0, s1, s2, s3, 3, 0⟩ := rfl
  have r4 : G.refill ⟨s0, s1, s2, s3, 3, 0⟩ = seeded ((blockL s0 s1 s2 s3 12).getD 28 0) ((blockL s0 s1 s2 s3 12).getD 29 0) ((blockL s0 s1 s2 s3 12).getD 30 0) ((blockL s0 s1 s2 s3 12).getD 31 0) := rfl
  have e1 := G.nth_group (seeded s0 s1 s2 s3) rfl (92 + k)
  have e2 := G.nth_group ⟨s0, s1, s2, s3, 1, 0⟩ rfl (60 + k)
  have e3 := G.nth_group ⟨s0, s1, s2, s3, 2, 0⟩ rfl (28 + k)
  have e4 := G.nth_group ⟨s0, s1, s2, s3, 3, 0⟩ rfl k
  have n1 : (seeded s0 s1 s2 s3).n = 32 := rfl
  have n2 : G.n ⟨s0, s1, s2, s3, 1, 0⟩ = 32 := rfl
  have n3 : G.n ⟨s0, s1, s2, s3, 2, 0⟩ = 32 := rfl
  have n4 : G.n ⟨s0, s1, s2, s3, 3, 0⟩ = 28 := rfl
  rw [n1, r1, show 32 + (92 + k) = 124 + k by omega] at e1
  rw [n2, r2, show 32 + (60 + k) = 92 + k by omega] at e2
  rw [n3, r3, show 32 + (28 + k) = 60 + k by omega] at e3
  rw [n4, r4] at e4
  rw [e1, e2, e3, e4]
end Go.Proofs.Ytjhpffenlhfilaa.Ch
