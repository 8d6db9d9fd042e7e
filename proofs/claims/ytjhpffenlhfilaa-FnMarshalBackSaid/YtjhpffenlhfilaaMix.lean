/- As Pick: operations that yield one value in every world that meets S (true), and others that come as the only ones (false), in whatever mixture. -/
import Derived.Test.YtjhpffenlhfilaaHeld
namespace Go.Proofs.Ytjhpffenlhfilaa.Mem
open Go Go.RowKit

def wpMix (P : Program) (ops : Array Oper) (Q : Exit → Act → World → Prop) (S : World → Prop) : List (Bool × Oper) → Act → World → Prop
  | [], a, w => Q .normal a w
  | (true, o) :: rest, a, w => ∃ v, YieldsIf P ops S o v a ∧ wpMix P ops Q S rest (a.put o.dst v) w
  | (false, o) :: rest, a, w => if Region.wanted o (yielded ops a.tmps) = true then Oper.wp P o a w (fun a' w' => S w' ∧ wpMix P ops Q S rest a' w') Q else S w ∧ wpMix P ops Q S rest (a.put o.dst undef) w
def pickM (l : List Oper) : List (Bool × Nat) → List (Bool × Oper)
  | [] => []
  | (b, i) :: r => match l.drop i with
    | o :: _ => (b, o) :: pickM l r
    | [] => pickM l r
theorem pickM_cons {l : List Oper} {b : Bool} {i : Nat} (r : List (Bool × Nat)) (h : i < l.length) : pickM l ((b, i) :: r) = (b, l[i]) :: pickM l r := by
  rw [pickM, List.drop_eq_getElem_cons h]

section
variable {P : Program} {md : Region.Mode} {S : World → Prop} {Q : Exit → Act → World → Prop} {l : List Oper} {ops : Array Oper}
theorem wpMix_nil {a : Act} {w : World} (h : Q .normal a w) : wpMix P ops Q S [] a w := h
theorem wpMix_take {o : Oper} {rest : List (Bool × Oper)} {a : Act} {w : World} (v : Value) (hy : YieldsIf P ops S o v a) (h : wpMix P ops Q S rest (a.put o.dst v) w) : wpMix P ops Q S ((true, o) :: rest) a w := ⟨v, hy, h⟩
theorem wpMix_step {o : Oper} {rest : List (Bool × Oper)} {a : Act} {w : World}
    (h : ∀ K' : Act → World → Prop, (∀ a w, S w → wpMix P ops Q S rest a w → K' a w) → if Region.wanted o (yielded ops a.tmps) = true then Oper.wp P o a w K' Q else K' (a.put o.dst undef) w) : wpMix P ops Q S ((false, o) :: rest) a w := by
  have := h (fun a w => S w ∧ wpMix P ops Q S rest a w) fun a w hs ht => ⟨hs, ht⟩
  exact this

def mixB (md : Region.Mode) (ops : Array Oper) : List (Bool × Nat) → Array Bool → Bool
  | [], listed => (Region.ready md ops listed).isEmpty
  | (true, i) :: rest, listed => decide (i < ops.size) && (Region.ready md ops listed).contains i && Region.free md ops listed i && mixB md ops rest (listed.setIfInBounds i true)
  | (false, i) :: rest, listed => decide (i < ops.size) && decide (Region.ready md ops listed = [i]) && mixB md ops rest (listed.setIfInBounds i true)

theorem any_mix (hs : Region.noSelect l.toArray = true) (hQ : ∀ c (a : Act) d v w, Q (.panic c) (a.put d v) w → Q (.panic c) a w) :
    ∀ (is : List (Bool × Nat)) (listed : Array Bool) (a : Act) (w : World), S w → mixB md l.toArray is listed = true → wpMix P l.toArray Q S (pickM l is) a w → wpAnyH P md l.toArray Q S is.length listed a w
  | [], _, _, _, _, hB, h => ⟨by simpa [mixB] using hB, h⟩
  | (true, i) :: is, listed, a, w, hS, hB, h => by
    simp only [mixB, Bool.and_eq_true, decide_eq_true_eq] at hB
    obtain ⟨⟨⟨hlt, hr⟩, hf⟩, hB'⟩ := hB
    have hlt' : i < l.length := by simpa using hlt
    have h0 : l.toArray[i]? = some l[i] := by simp [hlt']
    rw [pickM_cons is hlt'] at h
    obtain ⟨v, hy, hK⟩ := h
    exact wpAnyH_take h0 hs hf hr (fun c a w h => hQ c a _ _ w h) hy hS (any_mix hs hQ is _ _ _ hS hB' hK)
  | (false, i) :: is, listed, a, w, hS, hB, h => by
    simp only [mixB, Bool.and_eq_true, decide_eq_true_eq] at hB
    obtain ⟨⟨hlt, hr⟩, hB'⟩ := hB
    have hlt' : i < l.length := by simpa using hlt
    have h0 : l.toArray[i]? = some l[i] := by simp [hlt']
    rw [pickM_cons is hlt'] at h
    refine ⟨fun h1 => (by rw [hr] at h1; cases h1), fun j hj => ?_⟩
    rw [hr] at hj
    obtain rfl : j = i := by simpa using hj
    refine wpOp_step h0 fun K' hK => ?_
    unfold wpMix at h
    have hk : ∀ a' w', (S w' ∧ wpMix P l.toArray Q S (pickM l is) a' w') → K' a' w' := fun a' w' h' => hK a' w' ⟨h'.1, any_mix hs hQ is _ a' w' h'.1 hB' h'.2⟩
    split at h
    · rename_i hw; rw [if_pos hw]; exact Oper.wp_mono hk h
    · rename_i hw; rw [if_neg hw]; exact hk _ _ h

theorem wp_region_mix {id : Nat} {a : Act} {w : World} (S : World → Prop) (is : List (Bool × Nat)) (hm : P.follows .mixedOrders = true)
    (hB : (Region.noSelect l.toArray && decide (is.length = l.toArray.size) && mixB .any l.toArray is (Array.replicate l.toArray.size false)) = true)
    (hQ : ∀ c (a : Act) d v w, Q (.panic c) (a.put d v) w → Q (.panic c) a w) (hS : S w.drew)
    (h : wpMix P l.toArray Q S (pickM l is) a w.drew) : (Code.region id l.toArray true).wp P Q a w := by
  simp only [Bool.and_eq_true, decide_eq_true_eq] at hB
  obtain ⟨⟨hsel, hlen⟩, h1⟩ := hB
  refine wp_region_held (S := S) hm ?_
  have H := any_mix (md := .any) hsel hQ is _ a _ hS h1 h
  rw [hlen] at H
  exact H
end
end Go.Proofs.Ytjhpffenlhfilaa.Mem
