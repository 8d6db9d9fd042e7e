/- What two free allocs in a region that draws leave: facts of slots, the two blocks apart. -/
import Derived.Test.YtjhpffenlhfilaaFacts
namespace Go.Proofs.Ytjhpffenlhfilaa
open Go.RowKit Mem

def ptrTo (g : Nat) : Value := .pointer (some ⟨g, 0, none⟩)
theorem ptrTo_inj {g g' : Nat} (h : ptrTo g = ptrTo g') : g = g' := by
  unfold ptrTo at h
  injection h with h
  injection h with h
  injection h

/-- What stands in all worlds of the drawn region of a law that makes two blocks: the seed's block, the old world, the two new blocks apart (in the slots x and y). -/
structure Two (W : World) (gs : Nat) (T : TypeId) (S : List Value) (x y : Nat) (a : Act) (w : World) : Prop where
  seed : B w gs T S
  below : Below W.heap.size W w
  fst : ∀ g, a.tmps.getD x undef = ptrTo g → g < w.heap.size
  snd : ∀ g, a.tmps.getD y undef = ptrTo g → g < w.heap.size
  apart : ∀ g g', a.tmps.getD x undef = ptrTo g → a.tmps.getD y undef = ptrTo g' → g ≠ g'

section
variable {W w w' : World} {gs x y : Nat} {T : TypeId} {S : List Value} {a : Act}
theorem Two.put (h : Two W gs T S x y a w) (hb : Below w.heap.size w w') {d : Nat} (v : Value) (hx : d ≠ x) (hy : d ≠ y) : Two W gs T S x y (a.put (some d) v) w' := by
  refine ⟨h.seed.call hb, below_call h.below h.below.size hb, ?_, ?_, ?_⟩
  · rw [put_get_ne a v hx]; exact fun g e => Nat.lt_of_lt_of_le (h.fst g e) hb.size
  · rw [put_get_ne a v hy]; exact fun g e => Nat.lt_of_lt_of_le (h.snd g e) hb.size
  · rw [put_get_ne a v hx, put_get_ne a v hy]; exact h.apart
theorem Two.put1 (h : Two W gs T S x y a w) (hb : Below w.heap.size w w') (g : Nat) (hg : w.heap.size ≤ g) (hlt : g < w'.heap.size) (hxy : x ≠ y) (hs : x < a.tmps.size) : Two W gs T S x y (a.put (some x) (ptrTo g)) w' := by
  refine ⟨h.seed.call hb, below_call h.below h.below.size hb, ?_, ?_, ?_⟩
  · rw [put_get_eq a _ hs]; exact fun g' e => ptrTo_inj e ▸ hlt
  · rw [put_get_ne a _ hxy]; exact fun g e => Nat.lt_of_lt_of_le (h.snd g e) hb.size
  · rw [put_get_eq a _ hs, put_get_ne a _ hxy]
    intro g1 g2 e1 e2
    have := ptrTo_inj e1
    have := h.snd g2 e2
    omega
theorem Two.put2 (h : Two W gs T S x y a w) (hb : Below w.heap.size w w') (g : Nat) (hg : w.heap.size ≤ g) (hlt : g < w'.heap.size) (hxy : x ≠ y) (hs : y < a.tmps.size) : Two W gs T S x y (a.put (some y) (ptrTo g)) w' := by
  refine ⟨h.seed.call hb, below_call h.below h.below.size hb, ?_, ?_, ?_⟩
  · rw [put_get_ne a _ (Ne.symm hxy)]; exact fun g e => Nat.lt_of_lt_of_le (h.fst g e) hb.size
  · rw [put_get_eq a _ hs]; exact fun g' e => ptrTo_inj e ▸ hlt
  · rw [put_get_eq a _ hs, put_get_ne a _ (Ne.symm hxy)]
    intro g1 g2 e1 e2
    have := ptrTo_inj e2
    have := h.fst g1 e1
    omega
end

/-- A fact of a slot: it has this value, or a block of this content that lies behind the seed's. -/
inductive Fa where
  | val (v : Value)
  | blk (gs : Nat) (T : TypeId) (l : List Value)
  | nil
def Fa.ok : Fa → Value → World → Prop
  | .val v, u, _ => u = v
  | .blk gs T l, u, w => ∃ g, u = ptrTo g ∧ gs < g ∧ B w g T l
  | .nil, _, _ => True
theorem Fa.keep {w w' : World} (hb : Below w.heap.size w w') : ∀ {f : Fa} {u : Value}, f.ok u w → f.ok u w'
  | .val _, _, h => h
  | .blk .., _, ⟨g, h1, h2, h3⟩ => ⟨g, h1, h2, h3.call hb⟩
  | .nil, _, h => h

theorem step_load_whole {P : Program} {ops : Array Oper} {o : Oper} {a : Act} {w : World} {K : Act → World → Prop} {Q : Exit → Act → World → Prop} {E : Prop} (hgd : o.guard = none) (ty : TypeId) (x : Operand) (ho : o.op = .load ty x) (g : Nat) (hx : a.eval x = .pointer (some ⟨g, 0, none⟩)) {T : TypeId} {l : List Value} (hB : B w g T l)
    {d : TypeDesc} (hu : P.underlying ty = some d) (hd : d.isRow = true) (hi : (P.info? ty).map (·.size) = some l.length) (h : K (a.put o.dst (.agg l.toArray)) w) :
    if Region.wanted o (yielded ops a.tmps) = true then Oper.wp P o a w K Q else E :=
  step_load_at hgd ty x ho g 0 hx hB l (by rw [List.drop_zero]; exact List.take_length) hu hd hi h
theorem step_bin {P : Program} {ops : Array Oper} {o : Oper} {a : Act} {w : World} {K : Act → World → Prop} {Q : Exit → Act → World → Prop} {E : Prop} (hgd : o.guard = none) (op : BinOp) (t t2 : TypeId) (x y : Operand) (ho : o.op = .binOp op t x y t2) (vx vy v : Value) (hx : a.eval x = vx) (hy : a.eval y = vy)
    (hq : eqGuard op t x y vx vy = pure ()) (hop : (binOp op t vx vy).run P w = .ok v w) (h : K (a.put o.dst v) w) :
    if Region.wanted o (yielded ops a.tmps) = true then Oper.wp P o a w K Q else E := by
  rw [if_pos (by simp [Region.wanted, hgd])]
  unfold Oper.wp execOp
  simp only [ho, hx, hy, hq, Sem.run_bind, Sem.run_pure, Result.andThen_ok, hop]
  exact h
end Go.Proofs.Ytjhpffenlhfilaa
