/- '==' on two array values, whatever the element type: the model's loop over the elements as one law; arrays of integers. -/
import Derived.WalkKit
import Derived.WalkSpells
namespace Go.Proofs.Ytjhpffenlhfilaa.Eq
open Go.RowKit

variable {P : Program}

theorem run_part_int {e : TypeId} {k : IntKind} (he : P.underlying e = some (.int k)) (xs : Array Value) (i : Nat) (v : Value) (h : xs[i]? = some v) (w : World) :
    (part e xs i).run P w = .ok v w := by
  simp [part, isAgg, run_underlying he, h]

theorem run_part_bool {e : TypeId} (he : P.underlying e = some .bool) (xs : Array Value) (i : Nat) (v : Value) (h : xs[i]? = some v) (w : World) :
    (part e xs i).run P w = .ok v w := by
  simp [part, isAgg, run_underlying he, h]

theorem run_part_array {e e' : TypeId} {n s : Nat} {ti : TypeInfo} (he : P.underlying e = some (.array n e')) (hi : P.info? e = some ti) (hs : ti.size = s) (xs : Array Value) (i : Nat) (w : World) :
    (part e xs i).run P w = .ok (.agg (xs.extract i (i + s))) w := by
  simp [part, isAgg, run_underlying he, sizeOf, typeInfo, hi, hs]

/-- The loop over the elements. -/
theorem run_loop (d : Nat) (e : TypeId) (s : Nat) (xs ys : Array Value) (f : Nat → Bool) (w : World) : ∀ (l : List Nat),
    (∀ i ∈ l, ∃ a b, (part e xs (i * s)).run P w = .ok a w ∧ (part e ys (i * s)).run P w = .ok b w ∧ (Op.equalIn d e a b).run P w = .ok (f i) w) →
    (forIn (m := Sem) l ((none, ()) : Option Bool × Unit) fun i _ => do
        if (!(← Op.equalIn d e (← part e xs (i * s)) (← part e ys (i * s)))) = true then pure (.done (some false, ())) else pure (.yield (none, ()))).run P w =
      .ok (if l.all f then (none, ()) else (some false, ())) w := by
  intro l
  induction l with
  | nil => intro _; simp
  | cons i l ih =>
    intro h
    obtain ⟨a, b, ha, hb, hab⟩ := h i (by simp)
    have ih' := ih (fun j hj => h j (by simp [hj]))
    simp only [List.forIn_cons, Sem.run_bind, ha, hb, hab, Result.andThen_ok, Sem.run_ite, List.all_cons]
    by_cases hf : f i = true
    · simpa [hf] using ih'
    · simp [hf]

theorem run_equalIn_array (d : Nat) {t e : TypeId} {n s : Nat} {ti : TypeInfo} (ht : P.underlying t = some (.array n e)) (hi : P.info? e = some ti) (hs : ti.size = s) (xs ys : Array Value) (f : Nat → Bool) (w : World)
    (h : ∀ i, i < n → ∃ a b, (part e xs (i * s)).run P w = .ok a w ∧ (part e ys (i * s)).run P w = .ok b w ∧ (Op.equalIn d e a b).run P w = .ok (f i) w) :
    (Op.equalIn (d + 1) t (.agg xs) (.agg ys)).run P w = .ok ((List.range n).all f) w := by
  have hl := run_loop (P := P) d e s xs ys f w (List.range n) (fun i hi => h i (by simpa using hi))
  simp only [Op.equalIn, Sem.run_bind, run_underlying ht, Result.andThen_ok, sizeOf, typeInfo, Sem.run_pure]
  simp only [run_program, Result.andThen_ok, hi, Sem.run_pure, hs]
  simp only [Std.Legacy.Range.forIn_eq_forIn_range', Std.Legacy.Range.size, Nat.sub_zero, Nat.add_one_sub_one, Nat.div_one, ← List.range_eq_range']
  rw [hl]
  cases (List.range n).all f <;> simp


/-- The list of numbers that an array of integers holds, as its cells. -/
def ints (k : IntKind) (l : List Int) : Array Value := (l.map (Value.int k)).toArray

theorem ints_get (k : IntKind) (l : List Int) (i : Nat) (h : i < l.length) : (ints k l)[i]? = some (.int k l[i]) := by
  simp [ints, h]

theorem all_range_beq {α : Type} [BEq α] [LawfulBEq α] (l m : List α) (n : Nat) (h1 : l.length = n) (h2 : m.length = n) :
    ((List.range n).all fun i => l[i]? == m[i]?) = (l == m) := by
  rw [Bool.eq_iff_iff, List.all_eq_true, beq_iff_eq]
  constructor
  · intro h
    apply List.ext_getElem?
    intro i
    by_cases hi : i < n
    · exact beq_iff_eq.1 (h i (by simpa using hi))
    · rw [List.getElem?_eq_none (by omega), List.getElem?_eq_none (by omega)]
  · rintro rfl i _
    simp

/-- Two arrays of integers. -/
theorem run_equalIn_ints (d : Nat) {t e : TypeId} {n : Nat} {k : IntKind} {ti : TypeInfo} (ht : P.underlying t = some (.array n e)) (he : P.underlying e = some (.int k)) (hi : P.info? e = some ti) (hs : ti.size = 1)
    (l m : List Int) (h1 : l.length = n) (h2 : m.length = n) (w : World) :
    (Op.equalIn (d + 2) t (.agg (ints k l)) (.agg (ints k m))).run P w = .ok (l == m) w := by
  rw [run_equalIn_array (d + 1) ht hi hs (ints k l) (ints k m) (fun i => l[i]? == m[i]?) w, all_range_beq l m n h1 h2]
  intro i hin
  have ha : (ints k l)[i * 1]? = some (.int k (l[i]'(by omega))) := by rw [Nat.mul_one]; exact ints_get k l i (by omega)
  have hb : (ints k m)[i * 1]? = some (.int k (m[i]'(by omega))) := by rw [Nat.mul_one]; exact ints_get k m i (by omega)
  refine ⟨_, _, run_part_int he _ _ _ ha w, run_part_int he _ _ _ hb w, ?_⟩
  rw [run_equalIn_int w d e k k _ _ he, List.getElem?_eq_getElem (by omega), List.getElem?_eq_getElem (by omega)]
  rfl

/-- '==' on two arrays of integers. -/
theorem run_eql_ints {t e : TypeId} {n : Nat} {k : IntKind} {ti : TypeInfo} (ht : P.underlying t = some (.array n e)) (he : P.underlying e = some (.int k)) (hi : P.info? e = some ti) (hs : ti.size = 1)
    (l m : List Int) (h1 : l.length = n) (h2 : m.length = n) (w : World) :
    (binOp .eql t (.agg (ints k l)) (.agg (ints k m))).run P w = .ok (.bool (l == m)) w := by
  rw [run_eql_struct, show (10000 : Nat) = 9998 + 2 from rfl, run_equalIn_ints 9998 ht he hi hs l m h1 h2 w]
  rfl

end Go.Proofs.Ytjhpffenlhfilaa.Eq
