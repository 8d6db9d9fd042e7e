/- A region that draws its order: operations that yield one value in every world that meets S are taken first (a list of them), the others come in one forced order, each keeping S. -/
import Derived.OrdersHeld
import Derived.RegionTactic
import Derived.Deep.RegionWith
import Derived.StillTail
import Derived.Test.YtjhpffenlhfilaaBlk
namespace Go.Proofs.Ytjhpffenlhfilaa.Mem
open Go Go.RowKit

section
variable {P : Program} {ops : Array Oper} {md : Region.Mode} {S : World → Prop} {Q : Exit → Act → World → Prop}

def wpFirst (P : Program) (ops : Array Oper) (S : World → Prop) (L : Act → Prop) : List Oper → Act → Prop
  | [], a => L a
  | o :: rest, a => ∃ v, YieldsIf P ops S o v a ∧ wpFirst P ops S L rest (a.put o.dst v)
def wpThen (P : Program) (ops : Array Oper) (Q : Exit → Act → World → Prop) (S : World → Prop) : List Oper → Act → World → Prop
  | [], a, w => Q .normal a w
  | o :: rest, a, w => if Region.wanted o (yielded ops a.tmps) = true then Oper.wp P o a w (fun a' w' => S w' ∧ wpThen P ops Q S rest a' w') Q else S w ∧ wpThen P ops Q S rest (a.put o.dst undef) w
theorem wpFirst_nil {L : Act → Prop} {a : Act} (h : L a) : wpFirst P ops S L [] a := h
theorem wpThen_nil {a : Act} {w : World} (h : Q .normal a w) : wpThen P ops Q S [] a w := h
theorem wpThen_step {rest : List Oper} {o : Oper} {a : Act} {w : World}
    (h : ∀ K' : Act → World → Prop, (∀ a w, S w → wpThen P ops Q S rest a w → K' a w) → if Region.wanted o (yielded ops a.tmps) = true then Oper.wp P o a w K' Q else K' (a.put o.dst undef) w) : wpThen P ops Q S (o :: rest) a w := by
  have := h (fun a w => S w ∧ wpThen P ops Q S rest a w) fun a w hs ht => ⟨hs, ht⟩
  exact this

def listTo' (listed : Array Bool) (k : Nat) : Nat → Array Bool
  | 0 => listed
  | f + 1 => listTo' (listed.setIfInBounds k true) (k + 1) f
def firstB (md : Region.Mode) (ops : Array Oper) : Nat → Nat → Array Bool → Bool
  | 0, _, _ => true
  | f + 1, k, listed => (Region.ready md ops listed).contains k && Region.free md ops listed k && firstB md ops f (k + 1) (listed.setIfInBounds k true)

theorem any_then : ∀ (l : List Oper) (k : Nat) (listed : Array Bool) (a : Act) (w : World), (∀ j, l[j]? = ops[k + j]?) → Region.seqB md ops l.length k listed = true → wpThen P ops Q S l a w → wpAnyH P md ops Q S l.length listed a w
  | [], _, _, _, _, _, hB, h => ⟨by simpa [Region.seqB] using hB, h⟩
  | o :: l, k, listed, a, w, hl, hB, h => by
    have h0 : ops[k]? = some o := by simpa using (hl 0).symm
    simp only [List.length_cons, Region.seqB, Bool.and_eq_true, decide_eq_true_eq] at hB
    refine ⟨fun h1 => (by rw [hB.1] at h1; cases h1), fun j hj => ?_⟩
    rw [hB.1] at hj
    obtain rfl : j = k := by simpa using hj
    refine wpOp_step h0 fun K' hK => ?_
    unfold wpThen at h
    have hk : ∀ a' w', (S w' ∧ wpThen P ops Q S l a' w') → K' a' w' := fun a' w' h' => hK a' w' ⟨h'.1, any_then l (j + 1) _ a' w' (fun i => by have := hl (i + 1); simpa [Nat.add_assoc, Nat.add_comm 1 i] using this) hB.2 h'.2⟩
    split at h
    · rename_i hw; rw [if_pos hw]; exact Oper.wp_mono hk h
    · rename_i hw; rw [if_neg hw]; exact hk _ _ h

theorem any_first {w : World} {g : Nat} {L : Act → Prop} (hs : Region.noSelect ops = true) (hQ : ∀ c (a : Act) d v w, Q (.panic c) (a.put d v) w → Q (.panic c) a w) (hS : S w) :
    ∀ (l : List Oper) (k : Nat) (listed : Array Bool) (a : Act), (∀ j, j < l.length → l[j]? = ops[k + j]?) → firstB md ops l.length k listed = true → (∀ a', L a' → wpAnyH P md ops Q S g (listTo' listed k l.length) a' w) →
    wpFirst P ops S L l a → wpAnyH P md ops Q S (g + l.length) listed a w
  | [], _, _, _, _, _, hL, h => hL _ h
  | o :: l, k, listed, a, hl, hB, hL, h => by
    obtain ⟨v, hy, hK⟩ := h
    have h0 : ops[k]? = some o := by simpa using (hl 0 (by simp)).symm
    simp only [List.length_cons, firstB, Bool.and_eq_true] at hB
    exact wpAnyH_take h0 hs hB.1.2 hB.1.1 (fun c a w h => hQ c a _ _ w h) hy hS
      (any_first hs hQ hS l (k + 1) _ _ (fun j hj => by have := hl (j + 1) (by simp; omega); simpa [Nat.add_assoc, Nat.add_comm 1 j] using this) hB.2 hL hK)

def heldFormB (md : Region.Mode) (ops : Array Oper) (n : Nat) : Bool :=
  Region.noSelect ops && decide (n ≤ ops.size) && firstB md ops n 0 (Array.replicate ops.size false) && Region.seqB md ops (ops.size - n) n (listTo' (Array.replicate ops.size false) 0 n)

theorem wp_region_first {id : Nat} {a : Act} {w : World} {l : List Oper} (S : World → Prop) (n : Nat) (hm : P.follows .mixedOrders = true) (hB : heldFormB .any l.toArray n = true)
    (hQ : ∀ c (a : Act) d v w, Q (.panic c) (a.put d v) w → Q (.panic c) a w) (hS : S w.drew)
    (h : wpFirst P l.toArray S (fun a' => wpThen P l.toArray Q S (l.drop n) a' w.drew) (l.take n) a) : (Code.region id l.toArray true).wp P Q a w := by
  simp only [heldFormB, Bool.and_eq_true, decide_eq_true_eq] at hB
  obtain ⟨⟨⟨hsel, hlen⟩, h1⟩, h2⟩ := hB
  have hlen' : n ≤ l.length := by simpa using hlen
  have hl0 : (l.take n).length = n := by simp; omega
  have hl1 : (l.drop n).length = l.toArray.size - n := by simp
  refine wp_region_held (S := S) hm ?_
  have H := any_first (md := .any) (w := w.drew) (g := l.toArray.size - n) hsel hQ hS (l.take n) 0 (Array.replicate l.toArray.size false) a (fun j hj => by rw [hl0] at hj; simp [hj]) (by rw [hl0]; exact h1)
    (fun a' ha' => by
      rw [hl0]
      have H2 := any_then (md := .any) (l.drop n) n (listTo' (Array.replicate l.toArray.size false) 0 n) a' w.drew (fun j => by simp [List.getElem?_drop]) (by rw [hl1]; exact h2) ha'
      rwa [hl1] at H2) h
  rw [hl0, Nat.sub_add_cancel hlen] at H
  exact H

section
variable {o : Oper} {a : Act} {w : World} {K : Act → World → Prop} {E : Prop}

theorem step_store_part (hgd : o.guard = none) (ty : TypeId) (x y : Operand) (ho : o.op = .store ty x y) (g off : Nat) (hx : a.eval x = .pointer (some ⟨g, off, none⟩)) {T : TypeId} {l : List Value} (hB : B w g T l)
    (part : List Value) (hy : a.eval y = .agg part.toArray) (hfit : off + part.length ≤ l.length) (h1 : ∀ v ∈ part, v.oneCell' = true) (hi : (P.info? ty).map (·.size) = some part.length)
    (h : ∀ w', B w' g T (l.take off ++ part ++ l.drop (off + part.length)) → Only g w w' → K (a.put o.dst undef) w') :
    if Region.wanted o (yielded ops a.tmps) = true then Oper.wp P o a w K Q else E := by
  have hw : Region.wanted o (yielded ops a.tmps) = true := by simp [Region.wanted, hgd]
  rw [if_pos hw]
  unfold Oper.wp execOp
  simp only [ho, hx, hy, Instr.storeAt, Instr.sureAddr, Sem.run_bind, Sem.run_pure, Result.andThen_ok, run_storeVar_part ty g off hB part hfit h1 hi]
  exact h _ (setRow_heap w g _ _ T _ hB) (Only.setRow g _ w)

theorem step_store_all (hgd : o.guard = none) (ty : TypeId) (x y : Operand) (ho : o.op = .store ty x y) (g : Nat) (hx : a.eval x = .pointer (some ⟨g, 0, none⟩)) {T : TypeId} {l : List Value} (hB : B w g T l)
    (part : List Value) (hy : a.eval y = .agg part.toArray) (hfit : part.length = l.length) (h1 : ∀ v ∈ part, v.oneCell' = true) (hi : (P.info? ty).map (·.size) = some part.length)
    (h : ∀ w', B w' g T part → Only g w w' → K (a.put o.dst undef) w') :
    if Region.wanted o (yielded ops a.tmps) = true then Oper.wp P o a w K Q else E :=
  step_store_part hgd ty x y ho g 0 hx hB part hy (by omega) h1 hi fun w' hB' hO' => h w' (by
    have e : l.take 0 ++ part ++ l.drop (0 + part.length) = part := by
      rw [List.take_zero, List.nil_append, Nat.zero_add, List.drop_of_length_le (by omega), List.append_nil]
    rwa [e] at hB') hO'

theorem step_alloc (hgd : o.guard = none) (T : TypeId) (ho : o.op = .alloc T) (ti : TypeInfo) (z : Value) (l : List Value) (hi : P.info? T = some ti) (hz : ti.zero = some z) (hl : z.cells = l.toArray)
    (h : ∀ g w', w.heap.size ≤ g → g < w'.heap.size → B w' g T l → Below w.heap.size w w' → K (a.put o.dst (.pointer (some ⟨g, 0, none⟩))) w') :
    if Region.wanted o (yielded ops a.tmps) = true then Oper.wp P o a w K Q else E := by
  have hw : Region.wanted o (yielded ops a.tmps) = true := by simp [Region.wanted, hgd]
  rw [if_pos hw]
  unfold Oper.wp execOp
  have hrun : (Instr.alloc T true (.tuple #[])).run P w = .ok (.pointer (some ⟨w.heap.size, 0, none⟩)) (w.alloc (.cells l.toArray T)) := by
    simp [Instr.alloc, zeroValue, typeInfo, hi, hz, newVar, newRow, hl]
  simp only [ho, Sem.run_bind, hrun, Result.andThen_ok, Sem.run_pure]
  exact h w.heap.size _ (Nat.le_refl _) (by simp) (B.new w T l) ((Below.refl _ _).alloc (Nat.le_refl _) _)
end

/-- A whole block, or a part of one, read: it yields its value in every world in which the block is so. -/
theorem yieldsIf_load_part {o : Oper} {a : Act} (hgd : o.guard = none) (ty : TypeId) (x : Operand) (ho : o.op = .load ty x) (g off : Nat) (hx : a.eval x = .pointer (some ⟨g, off, none⟩)) {T : TypeId} {l : List Value} (hS : ∀ w, S w → B w g T l)
    (part : List Value) (hp : (l.drop off).take part.length = part) {d : TypeDesc} (hu : P.underlying ty = some d) (hd : d.isRow = true) (hi : (P.info? ty).map (·.size) = some part.length) :
    YieldsIf P ops S o (.agg part.toArray) a :=
  .inl ⟨by simp [Region.wanted, hgd], fun w hw => by
    have e := run_loadAt_mid (P := P) w g off _ _ _ ((hS w hw).rangeAt off part hp) hu hd hi
    unfold execOp
    simp only [ho, hx, Sem.run_bind, e, Result.andThen_ok, Sem.run_pure]⟩
end
end Go.Proofs.Ytjhpffenlhfilaa.Mem
