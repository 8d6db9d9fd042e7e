/- A region that draws its order: pure operations first; a head of quiet ones (they read; they call what only reads and draws), all of which a hub waits for and on which all that follows waits; pure ones; and a tail in one forced order: one walk of the text's order serves. -/
import Derived.Test.YtjhpffenlhfilaaQTail
namespace Go.Proofs.Ytjhpffenlhfilaa.Mem
open Go

section
variable {P : Program} {ops : Array Oper} {md : Region.Mode} {C : World → Prop}

/-- The lexical walk of operations that yield their value in whatever world. -/
def wpPure (P : Program) (ops : Array Oper) (L : Act → Prop) : List Oper → Act → Prop
  | [], a => L a
  | o :: rest, a => ∃ v, Yields P ops o v a ∧ wpPure P ops L rest (a.put o.dst v)

def listTo (listed : Array Bool) (k : Nat) : Nat → Array Bool
  | 0 => listed
  | f + 1 => listTo (listed.setIfInBounds k true) (k + 1) f

def lexRow (md : Region.Mode) (ops : Array Oper) : Nat → Nat → Array Bool → Bool
  | 0, _, _ => true
  | f + 1, k, listed => (Region.ready md ops listed).contains k && Region.free md ops listed k && lexRow md ops f (k + 1) (listed.setIfInBounds k true)

theorem any_pure {Q : Exit → Act → World → Prop} {L : Act → Prop} {w : World} {g : Nat} (hs : Region.noSelect ops = true) (hQ : ∀ c (a : Act) d v w, Q (.panic c) (a.put d v) w → Q (.panic c) a w) :
    ∀ (l : List Oper) (k : Nat) (listed : Array Bool) (a : Act), (∀ j, j < l.length → l[j]? = ops[k + j]?) → lexRow md ops l.length k listed = true → (∀ a', L a' → wpAny P md ops Q g (listTo listed k l.length) a' w) →
    wpPure P ops L l a → wpAny P md ops Q (g + l.length) listed a w
  | [], _, _, _, _, _, hL, h => hL _ h
  | o :: l, k, listed, a, hl, hB, hL, h => by
    obtain ⟨v, hy, hK⟩ := h
    have h0 : ops[k]? = some o := by simpa using (hl 0 (by simp)).symm
    simp only [List.length_cons, lexRow, Bool.and_eq_true] at hB
    exact wpAny_take h0 hs hB.1.2 hB.1.1 (fun c a w h => hQ c a _ _ w h) hy
      (any_pure hs hQ l (k + 1) _ _ (fun j hj => by have := hl (j + 1) (by simp; omega); simpa [Nat.add_assoc, Nat.add_comm 1 j] using this) hB.2 hL hK)

/-- Every operation from p on, up to n, is waited for by one between it and n; all behind n wait for n. -/
def hubB (md : Region.Mode) (ops : Array Oper) (p n : Nat) : Bool :=
  ((List.range n).all fun i => decide (i < p) || (List.range (n + 1)).any fun j => decide (i < j) && Region.waitsFor md ops j i) &&
  ((List.range ops.size).all fun t => decide (t ≤ n) || Region.waitsFor md ops t n)

def closedB (md : Region.Mode) (ops : Array Oper) (listed : Array Bool) : Bool :=
  decide (listed.size = ops.size) && (List.range ops.size).all fun j => !(listed.getD j false) || match ops[j]? with
    | some oj => oj.after.all fun e => !(Region.binds md e) || listed.getD e.on false
    | none => true

structure HubInv (md : Region.Mode) (ops : Array Oper) (listed : Array Bool) : Prop where
  size : listed.size = ops.size
  closed : ∀ j oj, ops[j]? = some oj → listed.getD j false = true → ∀ e ∈ oj.after, Region.binds md e = true → listed.getD e.on false = true

theorem closedB_spec {listed : Array Bool} (h : closedB md ops listed = true) : HubInv md ops listed := by
  simp only [closedB, Bool.and_eq_true, decide_eq_true_eq] at h
  refine ⟨h.1, fun j oj hj hl e he hb => ?_⟩
  have hjlt : j < ops.size := (Array.getElem?_eq_some_iff.1 hj).1
  have h2 := List.all_eq_true.1 h.2 j (List.mem_range.2 hjlt)
  simp only [hl, hj, Bool.not_true, Bool.false_or] at h2
  have h3 := Array.all_eq_true'.1 h2 e he
  simpa only [hb, Bool.not_true, Bool.false_or] using h3

theorem HubInv.set {i : Nat} {listed : Array Bool} (inv : HubInv md ops listed) (hi : i ∈ Region.ready md ops listed) : HubInv md ops (listed.setIfInBounds i true) := by
  obtain ⟨_, oi, hoi, hall⟩ := mem_ready.1 hi
  refine ⟨by simp [inv.size], fun j oj hj hl e he hb => ?_⟩
  by_cases hij : i = j
  · obtain rfl : oj = oi := Option.some.inj (hj.symm.trans (hij ▸ hoi))
    exact getD_set_true (hall e he hb)
  · rw [getD_set_ne false hij] at hl
    exact getD_set_true (inv.closed j oj hj hl e he hb)

theorem hub_waits {p n : Nat} {listed : Array Bool} (hB : hubB md ops p n = true) (hn : n < ops.size) (inv : HubInv md ops listed) :
    ∀ (d i : Nat), n - i = d → p ≤ i → i ≤ n → listed.getD i true = false → ∀ t ∈ Region.ready md ops listed, t ≤ n := by
  simp only [hubB, Bool.and_eq_true] at hB
  intro d
  induction d using Nat.strongRecOn with
  | _ d ih =>
    intro i hd hp hi hun t ht
    by_cases hin : i = n
    · refine Nat.le_of_not_lt fun hlt => ?_
      obtain ⟨_, ot, hot, hall⟩ := mem_ready.1 ht
      have h1 := List.all_eq_true.1 hB.2 t (List.mem_range.2 (Array.getElem?_eq_some_iff.1 hot).1)
      simp only [Bool.or_eq_true, decide_eq_true_eq] at h1
      rcases h1 with h1 | h1
      · omega
      · obtain ⟨o', ho', e, he, hb, hon⟩ := Region.waitsFor_spec h1
        obtain rfl : o' = ot := Option.some.inj (ho'.symm.trans hot)
        have h2 := hall e he hb
        rw [hon, ← hin, getD_both hun] at h2
        cases h2
    · have h1 := List.all_eq_true.1 hB.1 i (List.mem_range.2 (by omega))
      simp only [Bool.or_eq_true, decide_eq_true_eq] at h1
      rcases h1 with h1 | h1
      · omega
      · obtain ⟨j, hj, hj2⟩ := List.any_eq_true.1 h1
        simp only [Bool.and_eq_true, decide_eq_true_eq] at hj2
        obtain ⟨oj, hoj, e, he, hb, hon⟩ := Region.waitsFor_spec hj2.2
        have hjle := List.mem_range.1 hj
        cases hl : listed.getD j false with
        | true =>
          have h2 := inv.closed j oj hoj hl e he hb
          rw [hon, getD_both hun] at h2
          cases h2
        | false => exact ih (n - j) (by omega) j rfl (by omega) (by omega) (getD_in (by rw [inv.size]; omega) hl) t ht

theorem hub_first {p n i : Nat} {oi : Oper} {v : Value} {L : Array Bool → Act → Prop} (hi : ops[i]? = some oi) (hsel : ∀ (j : Nat) (o : Oper) cs b, ops[j]? = some o → o.op ≠ .select cs b)
    (hB : hubB md ops p n = true) (hn : n < ops.size) (hpi : p ≤ i) (hin : i ≤ n)
    (hdone : ∀ listed a, L listed a → ∀ j ∈ Region.ready md ops listed, n + 1 ≤ j) (f : Nat) :
    ∀ (listed : Array Bool) (a : Act), HubInv md ops listed →
      (∀ j oj, ops[j]? = some oj → j ≠ i → listed.getD j true = false → (∀ e ∈ oj.after, Region.binds md e = true → e.on ≠ i) → oi.apart ops oj = true) →
      i ∈ Region.ready md ops listed → YieldsIn P ops C oi v a →
      Head P md ops C (n + 1) L f (listed.setIfInBounds i true) (a.put oi.dst v) → Head P md ops C (n + 1) L (f + 1) listed a := by
  induction f with
  | zero =>
    intro listed a inv _ hr hy H
    refine ⟨fun h => (by rw [h] at hr; cases hr), fun j hj => ?_⟩
    have hjn : j < n + 1 := Nat.lt_succ_of_le (hub_waits hB hn inv _ i rfl hpi hin (mem_ready.1 hr).1 j hj)
    by_cases hji : j = i
    · exact ⟨hjn, by rw [hji]; exact hy.qOp hi H⟩
    · exact absurd (hdone _ _ H j (ready_mono hj hji)) (by omega)
  | succ f ih =>
    intro listed a inv hfree hr hy H
    have hun := (mem_ready.1 hr).1
    refine ⟨fun h => (by rw [h] at hr; cases hr), fun j hj => ?_⟩
    refine ⟨Nat.lt_succ_of_le (hub_waits hB hn inv _ i rfl hpi hin hun j hj), ?_⟩
    by_cases hji : j = i
    · rw [hji]; exact hy.qOp hi H
    · obtain ⟨hjun, oj, hoj, hall⟩ := mem_ready.1 hj
      have hnot : ∀ e ∈ oj.after, Region.binds md e = true → e.on ≠ i := fun e he hb heq => by
        have h1 := hall e he hb
        rw [heq, getD_both hun] at h1
        cases h1
      refine qOp_mono (fun a' h3 => ih _ a' (inv.set hj) (fun k ok hk hki hun' hno => hfree k ok hk hki ?_ hno) (ready_mono hr (Ne.symm hji)) h3.1 ?_)
        (qOp_put hoj (hfree j oj hoj hji hjun hnot) (fun cs b => hsel i oi cs b hi) (fun cs b => hsel j oj cs b hoj) hy (H.2 j (ready_mono hj hji)).2)
      · by_cases hjk : j = k
        · rw [← hjk]; exact hjun
        · rwa [getD_set_ne true hjk] at hun'
      · rw [Array.setIfInBounds_comm _ _ hji]
        exact h3.2

theorem hub_lex {p n : Nat} {Lq : Act → Prop} (hsel : Region.noSelect ops = true) (hB : hubB md ops p n = true) (hn : n < ops.size) (F : Array Bool) (hF : (Region.ready md ops F).all (fun j => decide (n + 1 ≤ j)) = true) :
    ∀ (l : List Oper) (k : Nat) (listed : Array Bool) (a : Act), (∀ j, j < l.length → l[j]? = ops[k + j]?) → p ≤ k → k + l.length = n + 1 → listTo listed k l.length = F → HubInv md ops listed →
    lexRow md ops l.length k listed = true → wpQuiet P ops C Lq l a →
    Head P md ops C (n + 1) (fun listed' a' => listed' = F ∧ Lq a') l.length listed a
  | [], k, listed, a, _, _, hk, hT, _, hL, h => ⟨hT, h⟩
  | o :: l, k, listed, a, hl, hp, hk, hT, inv, hL, h => by
    have h0 : ops[k]? = some o := by simpa using (hl 0 (by simp)).symm
    simp only [List.length_cons, lexRow, Bool.and_eq_true] at hL hk
    obtain ⟨⟨hr, hf⟩, hL'⟩ := hL
    have hr' : k ∈ Region.ready md ops listed := by simpa using hr
    have hst : qOp P ops C k (wpQuiet P ops C Lq l) a := by unfold qOp; simp only [h0]; exact h
    obtain ⟨v, hy, hK⟩ := yieldsIn_of_qOp h0 hst
    exact hub_first h0 (Region.noSelect_spec hsel) hB hn hp (by omega) (fun listed' a' hL => by rw [hL.1]; simpa using hF) l.length listed a inv (Region.free_spec h0 hf) hr' hy
      (hub_lex hsel hB hn F hF l (k + 1) _ _ (fun j hj => by have := hl (j + 1) (by simp; omega); simpa [Nat.add_assoc, Nat.add_comm 1 j] using this) (by omega) (by omega) hT (inv.set hr') hL' hK)

/-- All that is asked of the region's form: p pure ones, a head to the hub n, q pure ones, a forced tail. -/
def hubFormB (md : Region.Mode) (ops : Array Oper) (p n q : Nat) : Bool :=
  let l0 := Array.replicate ops.size false
  let l1 := listTo l0 0 p
  let l2 := listTo l1 p (n + 1 - p)
  let l3 := listTo l2 (n + 1) q
  Region.noSelect ops && decide (n < ops.size) && decide (p ≤ n) && decide (n + 1 + q ≤ ops.size) && hubB md ops p n && closedB md ops l1 && lexRow md ops p 0 l0 && lexRow md ops (n + 1 - p) p l1 &&
    (Region.ready md ops l2).all (fun j => decide (n + 1 ≤ j)) && lexRow md ops q (n + 1) l2 && Region.seqB md ops (ops.size - (n + 1 + q)) (n + 1 + q) l3

theorem wp_region_hub {id : Nat} {Q : Exit → Act → World → Prop} {a : Act} {w : World} {l : List Oper} (p n q : Nat) (hm : P.follows .mixedOrders = true) (hB : hubFormB .any l.toArray p n q = true)
    (hQ : ∀ c (a : Act) d v w, Q (.panic c) (a.put d v) w → Q (.panic c) a w)
    (h : wpPure P l.toArray (wpQuiet P l.toArray (fun w' => ∃ m, w' = w.drewN m) (wpPure P l.toArray (fun a' => ∀ m, wpList P l.toArray Q (l.drop (n + 1 + q)) a' (w.drewN m)) ((l.drop (n + 1)).take q)) ((l.drop p).take (n + 1 - p))) (l.take p) a) :
    (Code.region id l.toArray true).wp P Q a w := by
  simp only [hubFormB, Bool.and_eq_true, decide_eq_true_eq] at hB
  obtain ⟨⟨⟨⟨⟨⟨⟨⟨⟨⟨hsel, hn⟩, hpn⟩, hq⟩, hhub⟩, hcl⟩, hx0⟩, hx1⟩, hF⟩, hx2⟩, hseq⟩ := hB
  have hsz : l.toArray.size = l.length := by simp
  have hl0 : (l.take p).length = p := by simp; omega
  have hl1 : ((l.drop p).take (n + 1 - p)).length = n + 1 - p := by simp; omega
  have hl2 : ((l.drop (n + 1)).take q).length = q := by simp; omega
  have hl3 : (l.drop (n + 1 + q)).length = l.toArray.size - (n + 1 + q) := by simp
  refine wp_region_any hm ?_
  have etot : l.toArray.size = (((l.toArray.size - (n + 1 + q)) + q) + (n + 1 - p)) + p := by omega
  rw [etot]
  have H0 := any_pure (Q := Q) (md := .any) (w := { w with drawn := w.drawn + 1 }) (g := ((l.toArray.size - (n + 1 + q)) + q) + (n + 1 - p)) hsel hQ (l.take p) 0 (Array.replicate l.toArray.size false) a
    (fun j hj => by rw [hl0] at hj; simp [hj]) (by rw [hl0]; exact hx0) (fun a1 h1 => ?_) h
  · rw [hl0] at H0
    rw [← etot]
    rw [← etot] at H0
    exact H0
  · rw [hl0]
    have H1 := hub_lex (C := fun w' => ∃ m, w' = w.drewN m) hsel hhub hn _ hF ((l.drop p).take (n + 1 - p)) p (listTo (Array.replicate l.toArray.size false) 0 p) a1
      (fun j hj => by rw [hl1] at hj; simp [hj]) (Nat.le_refl _) (by rw [hl1]; omega) (by rw [hl1]) (closedB_spec hcl) (by rw [hl1]; exact hx1) h1
    have H2 := any_of_head (Q := Q) (g := (l.toArray.size - (n + 1 + q)) + q) (fun listed' a' w' hw' hL => by
      obtain ⟨m, rfl⟩ := hw'
      obtain ⟨rfl, hL⟩ := hL
      have H3 := any_pure (Q := Q) (md := .any) (w := w.drewN m) (g := l.toArray.size - (n + 1 + q)) hsel hQ ((l.drop (n + 1)).take q) (n + 1) _ a'
        (fun j hj => by rw [hl2] at hj; simp [hj]) (by rw [hl2]; exact hx2) (fun a3 h3 => by
          rw [hl2]
          have := wpAny_of_seq (md := .any) (Q' := Q) (l.drop (n + 1 + q)) (n + 1 + q) _ a3 (w.drewN m) (fun j => by simp [List.getElem?_drop]) (by rw [hl3]; exact hseq) (h3 m)
          rwa [hl3] at this) hL
      rwa [hl2] at H3) _ _ _ _ ⟨1, rfl⟩ H1
    rw [hl1, Nat.add_comm] at H2
    exact H2
end
end Go.Proofs.Ytjhpffenlhfilaa.Mem
