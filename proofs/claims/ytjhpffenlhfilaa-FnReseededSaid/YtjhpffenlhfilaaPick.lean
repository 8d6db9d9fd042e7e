/- As Held: the operations that are taken first, and the others, named by their numbers. -/
import Derived.Test.YtjhpffenlhfilaaHeld
namespace Go.Proofs.Ytjhpffenlhfilaa.Mem
open Go Go.RowKit

def pick (l : List Oper) : List Nat → List Oper
  | [] => []
  | i :: r => match l.drop i with
    | o :: _ => o :: pick l r
    | [] => pick l r
theorem pick_cons {l : List Oper} {i : Nat} (r : List Nat) (h : i < l.length) : pick l (i :: r) = l[i] :: pick l r := by
  rw [pick, List.drop_eq_getElem_cons h]

section
variable {P : Program} {md : Region.Mode} {S : World → Prop} {Q : Exit → Act → World → Prop} {l : List Oper}

def listAll (listed : Array Bool) : List Nat → Array Bool
  | [] => listed
  | i :: rest => listAll (listed.setIfInBounds i true) rest
def firstIB (md : Region.Mode) (ops : Array Oper) : List Nat → Array Bool → Bool
  | [], _ => true
  | i :: rest, listed => decide (i < ops.size) && (Region.ready md ops listed).contains i && Region.free md ops listed i && firstIB md ops rest (listed.setIfInBounds i true)
def thenIB (md : Region.Mode) (ops : Array Oper) : List Nat → Array Bool → Bool
  | [], listed => (Region.ready md ops listed).isEmpty
  | i :: rest, listed => decide (i < ops.size) && decide (Region.ready md ops listed = [i]) && thenIB md ops rest (listed.setIfInBounds i true)

theorem any_thenI : ∀ (ts : List Nat) (listed : Array Bool) (a : Act) (w : World), thenIB md l.toArray ts listed = true → wpThen P l.toArray Q S (pick l ts) a w → wpAnyH P md l.toArray Q S ts.length listed a w
  | [], _, _, _, hB, h => ⟨by simpa [thenIB] using hB, h⟩
  | i :: ts, listed, a, w, hB, h => by
    simp only [thenIB, Bool.and_eq_true, decide_eq_true_eq] at hB
    obtain ⟨⟨hlt, hr⟩, hB'⟩ := hB
    have hlt' : i < l.length := by simpa using hlt
    have h0 : l.toArray[i]? = some l[i] := by simp [hlt']
    rw [pick_cons ts hlt'] at h
    refine ⟨fun h1 => (by rw [hr] at h1; cases h1), fun j hj => ?_⟩
    rw [hr] at hj
    obtain rfl : j = i := by simpa using hj
    refine wpOp_step h0 fun K' hK => ?_
    unfold wpThen at h
    have hk : ∀ a' w', (S w' ∧ wpThen P l.toArray Q S (pick l ts) a' w') → K' a' w' := fun a' w' h' => hK a' w' ⟨h'.1, any_thenI ts _ a' w' hB' h'.2⟩
    split at h
    · rename_i hw; rw [if_pos hw]; exact Oper.wp_mono hk h
    · rename_i hw; rw [if_neg hw]; exact hk _ _ h

theorem any_firstI {w : World} {g : Nat} {L : Act → Prop} (hs : Region.noSelect l.toArray = true) (hQ : ∀ c (a : Act) d v w, Q (.panic c) (a.put d v) w → Q (.panic c) a w) (hS : S w) :
    ∀ (is : List Nat) (listed : Array Bool) (a : Act), firstIB md l.toArray is listed = true → (∀ a', L a' → wpAnyH P md l.toArray Q S g (listAll listed is) a' w) →
    wpFirst P l.toArray S L (pick l is) a → wpAnyH P md l.toArray Q S (g + is.length) listed a w
  | [], _, _, _, hL, h => hL _ h
  | i :: is, listed, a, hB, hL, h => by
    simp only [firstIB, Bool.and_eq_true, decide_eq_true_eq] at hB
    obtain ⟨⟨⟨hlt, hr⟩, hf⟩, hB'⟩ := hB
    have hlt' : i < l.length := by simpa using hlt
    have h0 : l.toArray[i]? = some l[i] := by simp [hlt']
    rw [pick_cons is hlt'] at h
    obtain ⟨v, hy, hK⟩ := h
    exact wpAnyH_take h0 hs hf hr (fun c a w h => hQ c a _ _ w h) hy hS (any_firstI hs hQ hS is _ _ hB' hL hK)

def pickFormB (md : Region.Mode) (ops : Array Oper) (is ts : List Nat) : Bool :=
  Region.noSelect ops && decide (is.length + ts.length = ops.size) && firstIB md ops is (Array.replicate ops.size false) && thenIB md ops ts (listAll (Array.replicate ops.size false) is)

theorem wp_region_pick {id : Nat} {a : Act} {w : World} (S : World → Prop) (is ts : List Nat) (hm : P.follows .mixedOrders = true) (hB : pickFormB .any l.toArray is ts = true)
    (hQ : ∀ c (a : Act) d v w, Q (.panic c) (a.put d v) w → Q (.panic c) a w) (hS : S w.drew)
    (h : wpFirst P l.toArray S (fun a' => wpThen P l.toArray Q S (pick l ts) a' w.drew) (pick l is) a) : (Code.region id l.toArray true).wp P Q a w := by
  simp only [pickFormB, Bool.and_eq_true, decide_eq_true_eq] at hB
  obtain ⟨⟨⟨hsel, hlen⟩, h1⟩, h2⟩ := hB
  refine wp_region_held (S := S) hm ?_
  have H := any_firstI (md := .any) (w := w.drew) (g := ts.length) hsel hQ hS is _ a h1 (fun a' ha' => any_thenI ts _ a' _ h2 ha') h
  rw [Nat.add_comm, hlen] at H
  exact H
end
end Go.Proofs.Ytjhpffenlhfilaa.Mem
