/- A region that draws its order: each operation adds a fact on its own slot and ends some others; whatever order comes, the facts that an operation wants stand when it comes up. -/
import Derived.Test.YtjhpffenlhfilaaHeld
import Derived.StillTail
namespace Go.Proofs.Ytjhpffenlhfilaa.Mem
open Go Go.RowKit

section
variable {P : Program} {md : Region.Mode} {Q : Exit → Act → World → Prop} {ops : Array Oper}

def slotOf (o : Oper) (a : Act) : Value := match o.dst with
  | some d => a.tmps.getD d undef
  | none => undef

/-- No operation's slot. -/
def freeT (ops : Array Oper) (k : Nat) : Bool := ops.all fun o => !(o.dst == some k)
theorem freeT_ne {k : Nat} (h : freeT ops k = true) {i : Nat} {o : Oper} (hi : ops[i]? = some o) : o.dst ≠ some k := fun hc => by
  obtain ⟨hlt, he⟩ := Array.getElem?_eq_some_iff.1 hi
  have := Array.all_eq_true'.1 h o (he ▸ Array.getElem_mem hlt)
  simp [hc] at this

/-- What is known when the operations of 'listed' have come up: the frame besides their slots, the core, each fact that no other has ended. -/
structure Known (ops : Array Oper) (Φ : Nat → Value → World → Prop) (Core : Act → World → Prop) (del : Nat → List Nat) (base : Act) (listed : Array Bool) (a : Act) (w : World) : Prop where
  size : listed.size = ops.size
  closed : ∀ j oj, ops[j]? = some oj → listed.getD j false = true → ∀ e ∈ oj.after, Region.binds md e = true → listed.getD e.on false = true
  defers : a.defers = base.defers
  tmps : a.tmps.size = base.tmps.size
  rest : ∀ k, freeT ops k = true → a.tmps.getD k undef = base.tmps.getD k undef
  core : Core a w
  fact : ∀ i o, ops[i]? = some o → listed.getD i false = true → (∀ k, k < ops.size → i ∈ del k → k ≠ i → listed.getD k false = false) → Φ i (slotOf o a) w

/-- p waits for j, directly or through others. -/
def behind (md : Region.Mode) (ops : Array Oper) : Nat → Nat → Nat → Bool
  | 0, _, _ => false
  | f + 1, p, j => Region.waitsFor md ops p j || (List.range ops.size).any fun q => Region.waitsFor md ops p q && behind md ops f q j

/-- The region's form: edges lead back; slots are apart and within the frame; what an operation wants it waits for, and who ends that waits for it. -/
def factsB (md : Region.Mode) (ops : Array Oper) (size : Nat) (pre del : Nat → List Nat) : Bool :=
  (List.range ops.size).all fun j => match ops[j]? with
    | none => false
    | some oj => oj.after.all (fun e => !(Region.binds md e) || decide (e.on < j)) &&
      (match oj.dst with
        | none => true
        | some d => decide (d < size) && (List.range ops.size).all fun k => k == j || match ops[k]? with
          | some ok => !(ok.dst == some d)
          | none => true) &&
      (pre j).all (fun i => decide (i < ops.size) && decide (i ≠ j) && Region.waitsFor md ops j i && (List.range ops.size).all fun k => !((del k).contains i) || k == i || k == j || behind md ops 5 k j)

/-- One operation's step. -/
def StepOk (P : Program) (md : Region.Mode) (ops : Array Oper) (Q : Exit → Act → World → Prop) (Φ : Nat → Value → World → Prop) (Core : Act → World → Prop) (pre del : Nat → List Nat) (base : Act) (j : Nat) : Prop :=
  ∀ o, ops[j]? = some o → ∀ (a : Act) (w : World) (K : Act → World → Prop), a.defers = base.defers → a.tmps.size = base.tmps.size → (∀ k, freeT ops k = true → a.tmps.getD k undef = base.tmps.getD k undef) → Core a w →
    (∀ i, i ∈ pre j → ∀ oi, ops[i]? = some oi → Φ i (slotOf oi a) w) →
    (∀ v w', (o.dst = none → v = undef) → Core (a.put o.dst v) w' → Φ j v w' → (∀ p op, ops[p]? = some op → p ∉ del j → p ≠ j → behind md ops 5 p j = false → Φ p (slotOf op a) w → Φ p (slotOf op a) w') → K (a.put o.dst v) w') →
    if Region.wanted o (yielded ops a.tmps) = true then Oper.wp P o a w K Q else K (a.put o.dst undef) w

theorem getD_in' {listed : Array Bool} {j : Nat} (h : j < listed.size) : (listed.setIfInBounds j true).getD j false = true := by simp [h]
theorem slot_put {oi oj : Oper} {a : Act} {v : Value} (h : ∀ d, oi.dst = some d → oj.dst ≠ some d) : slotOf oi (a.put oj.dst v) = slotOf oi a := by
  unfold slotOf
  cases hi : oi.dst with
  | none => rfl
  | some d =>
    cases hj : oj.dst with
    | none => rfl
    | some d' =>
      have hne : d' ≠ d := fun h' => h d hi (by rw [hj, h'])
      show (a.tmps.setIfInBounds d' v).getD d undef = a.tmps.getD d undef
      simp [hne]
theorem slot_new {o : Oper} {a : Act} {v : Value} (h : ∀ d, o.dst = some d → d < a.tmps.size) (hn : o.dst = none → v = undef) : slotOf o (a.put o.dst v) = v := by
  unfold slotOf
  cases hi : o.dst with
  | none => exact (hn hi).symm
  | some d =>
    have := h d hi
    show (a.tmps.setIfInBounds d v).getD d undef = v
    simp [this]
theorem put_rest {o : Oper} {a : Act} {v : Value} {k : Nat} (h : o.dst ≠ some k) : (a.put o.dst v).tmps.getD k undef = a.tmps.getD k undef := by
  cases hi : o.dst with
  | none => rfl
  | some d =>
    have hne : d ≠ k := fun h' => h (by rw [hi, h'])
    show (a.tmps.setIfInBounds d v).getD k undef = a.tmps.getD k undef
    simp [hne]
theorem put_size (a : Act) (d : Option Nat) (v : Value) : (a.put d v).tmps.size = a.tmps.size := by
  cases d <;> simp [Act.put]
theorem put_defers (a : Act) (d : Option Nat) (v : Value) : (a.put d v).defers = a.defers := by
  cases d <;> rfl


section
variable {o : Oper} {a : Act} {w : World} {K : Act → World → Prop} {E : Prop}
theorem eval_tmp (a : Act) (k : Nat) : a.eval (.tmp k) = a.tmps.getD k undef := by simp [Act.eval]
theorem step_load_at (hgd : o.guard = none) (ty : TypeId) (x : Operand) (ho : o.op = .load ty x) (g off : Nat) (hx : a.eval x = .pointer (some ⟨g, off, none⟩)) {T : TypeId} {l : List Value} (hB : B w g T l) (part : List Value) (hp : (l.drop off).take part.length = part)
    {d : TypeDesc} (hu : P.underlying ty = some d) (hd : d.isRow = true) (hi : (P.info? ty).map (·.size) = some part.length) (h : K (a.put o.dst (.agg part.toArray)) w) :
    if Region.wanted o (yielded ops a.tmps) = true then Oper.wp P o a w K Q else E := by
  rw [if_pos (by simp [Region.wanted, hgd])]
  have e := run_loadAt_mid (P := P) w g off _ _ _ (hB.rangeAt off part hp) hu hd hi
  unfold Oper.wp execOp
  simp only [ho, hx, Sem.run_bind, e, Result.andThen_ok, Sem.run_pure]
  exact h
theorem step_move (hgd : o.guard = none) (x : Operand) (ho : o.op = .move x) (v : Value) (hx : a.eval x = v) (h : K (a.put o.dst v) w) :
    if Region.wanted o (yielded ops a.tmps) = true then Oper.wp P o a w K Q else E := by
  rw [if_pos (by simp [Region.wanted, hgd])]
  unfold Oper.wp execOp
  simp only [ho, hx, Sem.run_pure]
  exact h
theorem step_func (hgd : o.guard = none) (f : FuncId) (fn : Func) (hf : P.funcs[f]? = some fn) (hname : (fn.name == "runtime.NumGoroutine") = false) (hbody : fn.body.isNone = false) (xs : Array Operand) (ts : Array TypeId) (ho : o.op = .call { callee := .value (.func f), args := xs, argTypes := ts }) (vs : List Value) (hx : xs.toList.map a.eval = vs)
    (h : Calls P f vs.toArray w fun e w' => ∃ v, e = .returned v ∧ K (a.put o.dst v) w') :
    if Region.wanted o (yielded ops a.tmps) = true then Oper.wp P o a w K Q else E := by
  rw [if_pos (by simp [Region.wanted, hgd])]
  have hv : xs.map a.eval = vs.toArray := by rw [← hx]; apply Array.ext'; simp
  unfold Oper.wp execOp
  simp only [ho, resolve, Act.eval, invoke, Sem.run_bind]
  rw [hv]
  have e1 : (Deferred.ofValue (Value.func (Fn.func f) #[] #[]) vs.toArray).run P w = .ok { target := .fn (.func f) #[], args := vs.toArray } w := by simp [Deferred.ofValue]
  rw [e1]
  simp only [Result.andThen_ok, callFunc, Array.append_empty, Sem.run_bind, run_program, hf, hname, hbody, Bool.false_eq_true, if_false, Sem.run_pure]
  rw [Oper.upon_enter]
  exact h.mono fun e w' he => by
    obtain ⟨v, rfl, hk⟩ := he
    exact hk
end

section
variable {Φ : Nat → Value → World → Prop} {Core : Act → World → Prop} {pre del : Nat → List Nat} {base : Act}

theorem factsB_at (h : factsB md ops base.tmps.size pre del = true) {j : Nat} {oj : Oper} (hj : ops[j]? = some oj) :
    (∀ e ∈ oj.after, Region.binds md e = true → e.on < j) ∧ (∀ d, oj.dst = some d → d < base.tmps.size ∧ ∀ k ok, ops[k]? = some ok → k ≠ j → ok.dst ≠ some d) ∧
    (∀ i ∈ pre j, i < ops.size ∧ i ≠ j ∧ Region.waitsFor md ops j i = true ∧ ∀ k, k < ops.size → i ∈ del k → k ≠ i → k ≠ j → behind md ops 5 k j = true) := by
  have hlt : j < ops.size := (Array.getElem?_eq_some_iff.1 hj).1
  have h1 := List.all_eq_true.1 h j (List.mem_range.2 hlt)
  simp only [hj, Bool.and_eq_true] at h1
  obtain ⟨⟨ha, hd⟩, hp⟩ := h1
  refine ⟨fun e he hb => ?_, fun d hdst => ?_, fun i hi => ?_⟩
  · have := Array.all_eq_true'.1 ha e he
    simpa [hb] using this
  · rw [hdst] at hd
    simp only [Bool.and_eq_true, decide_eq_true_eq] at hd
    refine ⟨hd.1, fun k ok hk hne hc => ?_⟩
    have h2 := List.all_eq_true.1 hd.2 k (List.mem_range.2 (Array.getElem?_eq_some_iff.1 hk).1)
    simp [hk, hne, hc] at h2
  · have h2 := List.all_eq_true.1 hp i hi
    simp only [Bool.and_eq_true, decide_eq_true_eq] at h2
    obtain ⟨⟨⟨h3, h4⟩, h5⟩, h6⟩ := h2
    refine ⟨h3, h4, h5, fun k hk hik hki hkj => ?_⟩
    have h7 := List.all_eq_true.1 h6 k (List.mem_range.2 hk)
    simpa [hik, hki, hkj] using h7

theorem behind_listed {listed : Array Bool} (hcl : ∀ j oj, ops[j]? = some oj → listed.getD j false = true → ∀ e ∈ oj.after, Region.binds md e = true → listed.getD e.on false = true) :
    ∀ (f p j : Nat), behind md ops f p j = true → listed.getD p false = true → listed.getD j false = true
  | 0, _, _, h, _ => by cases h
  | f + 1, p, j, h, hp => by
    have one : ∀ q, Region.waitsFor md ops p q = true → listed.getD q false = true := fun q hq => by
      obtain ⟨op, hop, e, he, hb, hon⟩ := Region.waitsFor_spec hq
      rw [← hon]
      exact hcl p op hop hp e he hb
    rcases Bool.or_eq_true_iff.1 h with h | h
    · exact one j h
    · obtain ⟨q, _, hq⟩ := List.any_eq_true.1 h
      rw [Bool.and_eq_true] at hq
      exact behind_listed hcl f q j hq.2 (one q hq.1)

theorem known_step' (hB : factsB md ops base.tmps.size pre del = true) {listed : Array Bool} {a : Act} {w : World} {j : Nat} (hst : StepOk P md ops Q Φ Core pre del base j)
    (hK : Known (md := md) ops Φ Core del base listed a w) (hj : j ∈ Region.ready md ops listed) :
    wpOp P ops Q j (Known (md := md) ops Φ Core del base (listed.setIfInBounds j true)) a w := by
  obtain ⟨hun, oj, hoj, hall⟩ := mem_ready.1 hj
  have hlt : j < ops.size := (Array.getElem?_eq_some_iff.1 hoj).1
  have hjl : j < listed.size := by rw [hK.size]; exact hlt
  obtain ⟨hback, hdst, hpre⟩ := factsB_at hB hoj
  have hunf : listed.getD j false = false := getD_both hun
  have hstep : ∀ v w', (oj.dst = none → v = undef) → Core (a.put oj.dst v) w' → Φ j v w' → (∀ p op, ops[p]? = some op → p ∉ del j → p ≠ j → behind md ops 5 p j = false → Φ p (slotOf op a) w → Φ p (slotOf op a) w') → Known (md := md) ops Φ Core del base (listed.setIfInBounds j true) (a.put oj.dst v) w' := fun v w' hv hc hf hkeep => by
    refine ⟨by simp [hK.size], fun i oi hi hl e he hb => ?_, by rw [put_defers]; exact hK.defers, by rw [put_size]; exact hK.tmps, fun k hk => ?_, hc, fun i oi hi hl hnd => ?_⟩
    · by_cases hij : j = i
      · obtain rfl : oi = oj := Option.some.inj (hi.symm.trans (hij ▸ hoj))
        exact getD_set_true (hall e he hb)
      · rw [getD_set_ne false hij] at hl
        exact getD_set_true (hK.closed i oi hi hl e he hb)
    · rw [put_rest (freeT_ne hk hoj)]
      exact hK.rest k hk
    · by_cases hij : j = i
      · obtain rfl : oi = oj := Option.some.inj (hi.symm.trans (hij ▸ hoj))
        rw [slot_new (fun d hd => by rw [hK.tmps]; exact (hdst d hd).1) hv, ← hij]
        exact hf
      · rw [getD_set_ne false hij] at hl
        have hsl : slotOf oi (a.put oj.dst v) = slotOf oi a := slot_put fun d hd hd' => by
          exact (hdst d hd').2 i oi hi (Ne.symm hij) hd
        rw [hsl]
        have hnj : i ∉ del j := fun hc => by
          have := hnd j hlt hc hij
          rw [getD_in' hjl] at this
          cases this
        have hbh : behind md ops 5 i j = false := by
          cases hb : behind md ops 5 i j with
          | false => rfl
          | true =>
            have := behind_listed hK.closed 5 i j hb hl
            rw [hunf] at this
            cases this
        refine hkeep i oi hi hnj (Ne.symm hij) hbh (hK.fact i oi hi hl fun k hk hik hki => ?_)
        have := hnd k hk hik hki
        by_cases hkj : j = k
        · rw [← hkj, getD_in' hjl] at this; cases this
        · rwa [getD_set_ne false hkj] at this
  have hH := hst oj hoj a w
  have hwp := hH _ hK.defers hK.tmps hK.rest hK.core (fun i hi oi hoi => by
    obtain ⟨h3, h4, h5, h6⟩ := hpre i hi
    obtain ⟨oj', hoj', e, he, hb, hon⟩ := Region.waitsFor_spec h5
    obtain rfl : oj' = oj := Option.some.inj (hoj'.symm.trans hoj)
    refine hK.fact i oi hoi (by rw [← hon]; exact hall e he hb) fun k hk hik hki => ?_
    by_cases hkj : k = j
    · rw [hkj]; exact hunf
    · cases hkl : listed.getD k false with
      | false => rfl
      | true =>
        have := behind_listed hK.closed 5 k j (h6 k hk hik hki hkj) hkl
        rw [hunf] at this
        cases this) hstep
  exact wpOp_step hoj fun K' hK' => by
    split at hwp
    · rename_i hw; rw [if_pos hw]; exact Oper.wp_mono hK' hwp
    · rename_i hw; rw [if_neg hw]; exact hK' _ _ hwp

theorem countP_more (j : Nat) (p : Nat → Bool) (hp : p j = false) : ∀ (l : List Nat), l.Nodup → j ∈ l → l.countP (fun i => p i || i == j) = l.countP p + 1
  | [], _, h => by cases h
  | x :: l, hn, h => by
    rw [List.nodup_cons] at hn
    by_cases hx : x = j
    · subst hx
      have : l.countP (fun i => p i || i == x) = l.countP p := List.countP_congr fun i hi => by
        have : i ≠ x := fun h' => hn.1 (h' ▸ hi)
        simp [this]
      simp [this, hp]
    · have hm : j ∈ l := by
        rcases List.mem_cons.1 h with h | h
        · exact absurd h.symm hx
        · exact h
      have ih := countP_more j p hp l hn.2 hm
      simp only [List.countP_cons, ih]
      have hx' : (x == j) = false := beq_eq_false_iff_ne.2 hx
      rw [hx', Bool.or_false]
      omega
def cnt (n : Nat) (listed : Array Bool) : Nat := (List.range n).countP fun i => listed.getD i false
theorem cnt_set {n : Nat} {listed : Array Bool} (hs : listed.size = n) {j : Nat} (hj : j < n) (hu : listed.getD j false = false) : cnt n (listed.setIfInBounds j true) = cnt n listed + 1 := by
  unfold cnt
  rw [← countP_more j (fun i => listed.getD i false) hu (List.range n) List.nodup_range (List.mem_range.2 hj)]
  refine List.countP_congr fun i _ => ?_
  by_cases hij : j = i
  · subst hij
    rw [getD_in' (by omega)]
    simp
  · rw [getD_set_ne false hij]
    have : (i == j) = false := beq_eq_false_iff_ne.2 (Ne.symm hij)
    rw [this, Bool.or_false]

theorem ready_nil (hB : factsB md ops base.tmps.size pre del = true) {listed : Array Bool} (hs : listed.size = ops.size) (h : Region.ready md ops listed = []) : ∀ j, j < ops.size → listed.getD j false = true := by
  intro j
  induction j using Nat.strongRecOn with
  | _ j ih =>
    intro hj
    cases hl : listed.getD j false with
    | true => rfl
    | false =>
      have hoj : ops[j]? = some ops[j] := Array.getElem?_eq_getElem hj
      have hb := (factsB_at hB hoj).1
      have : j ∈ Region.ready md ops listed := mem_ready.2 ⟨getD_in (by omega) hl, ops[j], hoj, fun e he hbd => ih e.on (hb e he hbd) (Nat.lt_trans (hb e he hbd) hj)⟩
      rw [h] at this
      cases this

theorem any_known (hB : factsB md ops base.tmps.size pre del = true) (hst : ∀ j, j < ops.size → StepOk P md ops Q Φ Core pre del base j)
    (hend : ∀ listed a w, Known (md := md) ops Φ Core del base listed a w → (∀ j, j < ops.size → listed.getD j false = true) → Q .normal a w) :
    ∀ (fuel : Nat) (listed : Array Bool) (a : Act) (w : World), fuel + cnt ops.size listed = ops.size → Known (md := md) ops Φ Core del base listed a w → wpAny P md ops Q fuel listed a w
  | 0, listed, a, w, hf, hK => by
    have hr : Region.ready md ops listed = [] := by
      cases hr : Region.ready md ops listed with
      | nil => rfl
      | cons j r =>
        obtain ⟨hun, oj, hoj, _⟩ := mem_ready.1 (show j ∈ Region.ready md ops listed by rw [hr]; simp)
        have hj : j < ops.size := (Array.getElem?_eq_some_iff.1 hoj).1
        have h1 := cnt_set hK.size hj (getD_both hun)
        have h2 : cnt ops.size (listed.setIfInBounds j true) ≤ ops.size := by
          unfold cnt
          have := List.countP_le_length (p := fun i => (listed.setIfInBounds j true).getD i false) (l := List.range ops.size)
          simpa using this
        omega
    exact ⟨hr, hend listed a w hK (ready_nil hB hK.size hr)⟩
  | fuel + 1, listed, a, w, hf, hK => by
    refine ⟨fun hr => hend listed a w hK (ready_nil hB hK.size hr), fun j hj => ?_⟩
    obtain ⟨hun, oj, hoj, _⟩ := mem_ready.1 hj
    have hjl : j < ops.size := (Array.getElem?_eq_some_iff.1 hoj).1
    refine wpOp_mono (fun a' w' hK' => any_known hB hst hend fuel _ a' w' ?_ hK') (known_step' hB (hst j hjl) hK hj)
    rw [cnt_set hK.size hjl (getD_both hun)]
    omega

/-- What is known when all have come up. -/
def AllKnown (ops : Array Oper) (Φ : Nat → Value → World → Prop) (Core : Act → World → Prop) (del : Nat → List Nat) (base : Act) (a : Act) (w : World) : Prop :=
  a.defers = base.defers ∧ a.tmps.size = base.tmps.size ∧ (∀ k, freeT ops k = true → a.tmps.getD k undef = base.tmps.getD k undef) ∧ Core a w ∧
    ∀ (i : Nat) (o : Oper), ops[i]? = some o → (∀ k, k < ops.size → i ∈ del k → k = i) → Φ i (slotOf o a) w

theorem wp_region_facts {id : Nat} {w : World} {l : List Oper} (Φ : Nat → Value → World → Prop) (Core : Act → World → Prop) (pre del : Nat → List Nat) (hm : P.follows .mixedOrders = true)
    (hB : factsB .any l.toArray base.tmps.size pre del = true) (hC : Core base w.drew)
    (hst : ∀ j, j < l.toArray.size → StepOk P .any l.toArray Q Φ Core pre del base j)
    (hend : ∀ a w, AllKnown l.toArray Φ Core del base a w → Q .normal a w) : (Code.region id l.toArray true).wp P Q base w := by
  refine wp_region_any hm ?_
  refine any_known (md := .any) hB hst (fun listed a w hK hall => hend a w ⟨hK.defers, hK.tmps, hK.rest, hK.core, fun i o hi hd => ?_⟩) _ _ _ _ ?_ ?_
  · have hi' : i < l.toArray.size := (Array.getElem?_eq_some_iff.1 hi).1
    exact hK.fact i o hi (hall i hi') fun k hk hik hki => absurd (hd k hk hik) hki
  · unfold cnt
    have : (List.range l.toArray.size).countP (fun i => (Array.replicate l.toArray.size false).getD i false) = 0 := by
      rw [List.countP_eq_zero]
      intro i _
      rw [getD_replicate_false]
      simp
    rw [this]
    rfl
  · refine ⟨by simp, fun j oj _ hl => (by rw [getD_replicate_false] at hl; cases hl), rfl, rfl, fun _ _ => rfl, hC, fun i o _ hl => (by rw [getD_replicate_false] at hl; cases hl)⟩

/-- The head has come up, nothing else. -/
def headDone (size n : Nat) : Array Bool := ((List.range size).map fun i => decide (i < n)).toArray
theorem headDone_eq {listed : Array Bool} {n : Nat} (h1 : ∀ j, j < n → listed.getD j false = true) (h2 : ∀ j, n ≤ j → listed.getD j false = false) : listed = headDone listed.size n := by
  apply Array.ext
  · simp [headDone]
  · intro j hj hj2
    have e : listed[j] = listed.getD j false := by simp [hj]
    rw [e]
    simp only [headDone, List.getElem_toArray, List.getElem_map, List.getElem_range]
    by_cases h : j < n
    · rw [h1 j h, decide_eq_true h]
    · rw [h2 j (by omega), decide_eq_false h]

theorem any_known_tail {n : Nat} {lt : List Oper} (hB : factsB md ops base.tmps.size pre del = true) (hst : ∀ j, j < n → StepOk P md ops Q Φ Core pre del base j)
    (hs : Region.sinkB md ops n = true) (hc : Region.chainB md ops n = true) (hn : n < ops.size) (hlt : lt.length = ops.size - n) (htl : ∀ j, lt[j]? = ops[n + j]?) (hseq : Region.seqB md ops (ops.size - n) n (headDone ops.size n) = true)
    (hend : ∀ listed a w, Known (md := md) ops Φ Core del base listed a w → (∀ j, j < n → listed.getD j false = true) → (∀ j, n ≤ j → listed.getD j false = false) → wpList P ops Q lt a w) :
    ∀ (fuel : Nat) (listed : Array Bool) (a : Act) (w : World), fuel + cnt ops.size listed = ops.size → (∀ j, n ≤ j → listed.getD j false = false) → Known (md := md) ops Φ Core del base listed a w → wpAny P md ops Q fuel listed a w := by
  intro fuel
  induction fuel with
  | zero =>
    intro listed a w hf ht hK
    exfalso
    have h1 := cnt_set hK.size hn (ht n (Nat.le_refl _))
    have h2 : cnt ops.size (listed.setIfInBounds n true) ≤ ops.size := by
      unfold cnt
      have := List.countP_le_length (p := fun i => (listed.setIfInBounds n true).getD i false) (l := List.range ops.size)
      simpa using this
    omega
  | succ fuel ih =>
    intro listed a w hf ht hK
    by_cases hall : ∀ j, j < n → listed.getD j false = true
    · have hwp := hend listed a w hK hall ht
      have hl : listed = headDone ops.size n := by rw [← hK.size]; exact headDone_eq hall ht
      have hcn : cnt ops.size listed = n := by
        rw [hl]
        unfold cnt
        have e : (List.range ops.size).countP (fun i => (headDone ops.size n).getD i false) = (List.range ops.size).countP (fun i => decide (i < n)) := List.countP_congr fun i hi => by
          have : i < ops.size := List.mem_range.1 hi
          simp [headDone, this]
        rw [e]
        have e2 : ops.size = n + (ops.size - n) := by omega
        rw [e2, List.range_add, List.countP_append]
        have e3 : (List.range n).countP (fun i => decide (i < n)) = n := by
          rw [List.countP_eq_length.2 fun i hi => by simpa using hi, List.length_range]
        have e4 : ((List.range (ops.size - n)).map (n + ·)).countP (fun i => decide (i < n)) = 0 := List.countP_eq_zero.2 fun i hi => by
          obtain ⟨k, _, rfl⟩ := List.mem_map.1 hi
          simp
        rw [e3, e4, Nat.add_zero]
      have hfu : fuel + 1 = lt.length := by rw [hlt]; omega
      rw [hfu, hl]
      exact wpAny_of_seq (md := md) (Q' := Q) lt n _ a w htl (by rw [hlt]; exact hseq) hwp
    · have hinv : HeadInv md ops n listed := ⟨hK.size, hK.closed, fun t h1 h2 => getD_in (by rw [hK.size]; exact h2) (ht t h1)⟩
      obtain ⟨i, hi, hun⟩ : ∃ i, i < n ∧ listed.getD i true = false := by
        by_cases hex : ∃ i, i < n ∧ listed.getD i true = false
        · exact hex
        · exfalso
          refine hall fun j hj => ?_
          cases hl : listed.getD j false with
          | true => rfl
          | false => exact absurd ⟨j, hj, getD_in (by rw [hK.size]; omega) hl⟩ hex
      refine ⟨fun hr => absurd (ready_nil hB hK.size hr i (by omega)) (by rw [getD_both hun]; simp), fun j hj => ?_⟩
      have hjn : j < n := Nat.lt_of_not_le fun h => tail_waits hs hc hn hinv _ i rfl hi hun j h hj
      obtain ⟨hunj, oj, hoj, _⟩ := mem_ready.1 hj
      have hjl : j < ops.size := (Array.getElem?_eq_some_iff.1 hoj).1
      have hstep := known_step' hB (hst j hjn) hK hj
      refine wpOp_mono (fun a' w' hK' => ih _ a' w' ?_ ?_ hK') hstep
      · rw [cnt_set hK.size hjl (getD_both hunj)]
        omega
      · intro t h1
        rw [getD_set_ne false (by omega)]
        exact ht t h1

theorem wp_region_facts_tail {id : Nat} {w : World} {l : List Oper} (n : Nat) (Φ : Nat → Value → World → Prop) (Core : Act → World → Prop) (pre del : Nat → List Nat) (hm : P.follows .mixedOrders = true)
    (hB : (factsB .any l.toArray base.tmps.size pre del && Region.sinkB .any l.toArray n && Region.chainB .any l.toArray n && decide (n < l.toArray.size) && Region.seqB .any l.toArray (l.toArray.size - n) n (headDone l.toArray.size n)) = true) (hC : Core base w.drew)
    (hst : ∀ j, j < n → StepOk P .any l.toArray Q Φ Core pre del base j)
    (hend : ∀ a w, a.defers = base.defers → a.tmps.size = base.tmps.size → (∀ k, freeT l.toArray k = true → a.tmps.getD k undef = base.tmps.getD k undef) → Core a w →
      (∀ (i : Nat) (o : Oper), i < n → l.toArray[i]? = some o → (∀ k, k < n → i ∈ del k → k = i) → Φ i (slotOf o a) w) → wpList P l.toArray Q (l.drop n) a w) : (Code.region id l.toArray true).wp P Q base w := by
  simp only [Bool.and_eq_true, decide_eq_true_eq] at hB
  obtain ⟨⟨⟨⟨h1, h2⟩, h3⟩, h4⟩, h5⟩ := hB
  refine wp_region_any hm ?_
  refine any_known_tail (md := .any) (lt := l.drop n) h1 hst h2 h3 h4 (by simp) (fun j => by simp [List.getElem?_drop]) h5
    (fun listed a w hK hall htl => hend a w hK.defers hK.tmps hK.rest hK.core fun i o hin hi hd => hK.fact i o hi (hall i hin) fun k hk hik hki => ?_) _ _ _ _ ?_ ?_ ?_
  · by_cases hkn : k < n
    · exact absurd (hd k hkn hik) hki
    · exact htl k (by omega)
  · unfold cnt
    have : (List.range l.toArray.size).countP (fun i => (Array.replicate l.toArray.size false).getD i false) = 0 := by
      rw [List.countP_eq_zero]
      intro i _
      rw [getD_replicate_false]
      simp
    rw [this]
    rfl
  · intro j _
    exact getD_replicate_false _ _
  · refine ⟨by simp, fun j oj _ hl => (by rw [getD_replicate_false] at hl; cases hl), rfl, rfl, fun _ _ => rfl, hC, fun i o _ hl => (by rw [getD_replicate_false] at hl; cases hl)⟩
end
end
section
variable {ops : Array Oper}
/-- A frame of which each slot is known. -/
def putL : List (Nat × Value) → Act → Act
  | [], b => b
  | p :: L, b => putL L (b.put (some p.1) p.2)
theorem putL_defers : ∀ (L : List (Nat × Value)) (b : Act), (putL L b).defers = b.defers
  | [], _ => rfl
  | _ :: L, _ => (putL_defers L _).trans rfl
theorem putL_size : ∀ (L : List (Nat × Value)) (b : Act), (putL L b).tmps.size = b.tmps.size
  | [], _ => rfl
  | _ :: L, b => (putL_size L _).trans (put_size b _ _)
theorem put_get (b : Act) (d : Nat) (v : Value) (k : Nat) : (b.put (some d) v).tmps.getD k undef = if d = k ∧ d < b.tmps.size then v else b.tmps.getD k undef := by
  show (b.tmps.setIfInBounds d v).getD k undef = _
  by_cases h : d = k
  · subst h
    by_cases hs : d < b.tmps.size
    · simp [hs]
    · simp [hs]
  · simp [h]
theorem put_get_ne (b : Act) {d k : Nat} (v : Value) (h : d ≠ k) : (b.put (some d) v).tmps.getD k undef = b.tmps.getD k undef := by rw [put_get, if_neg fun h' => h h'.1]
theorem put_get_eq (b : Act) {d : Nat} (v : Value) (h : d < b.tmps.size) : (b.put (some d) v).tmps.getD d undef = v := by rw [put_get, if_pos ⟨rfl, h⟩]
theorem putL_get (a : Act) : ∀ (L : List (Nat × Value)) (b : Act), a.tmps.size = b.tmps.size → (∀ p ∈ L, a.tmps.getD p.1 undef = p.2) → ∀ k, (a.tmps.getD k undef = b.tmps.getD k undef ∨ ∃ p ∈ L, p.1 = k) → (putL L b).tmps.getD k undef = a.tmps.getD k undef
  | [], b, _, _, k, h => by
    rcases h with h | ⟨p, hp, _⟩
    · exact h.symm
    · cases hp
  | p :: L, b, hs, hL, k, h => by
    refine putL_get a L _ (hs.trans (put_size b _ _).symm) (fun q hq => hL q (List.mem_cons_of_mem _ hq)) k ?_
    rw [put_get]
    by_cases hk : p.1 = k
    · refine .inl ?_
      have hp := hL p (List.mem_cons_self ..)
      by_cases hlt : p.1 < b.tmps.size
      · rw [if_pos ⟨hk, hlt⟩, ← hk]
        exact hp
      · rw [if_neg (fun h' => hlt h'.2)]
        have h1 : a.tmps.size ≤ k := by omega
        have h2 : b.tmps.size ≤ k := by omega
        simp [Array.getD, Nat.not_lt.2 h1, Nat.not_lt.2 h2]
    · rw [if_neg (fun h' => hk h'.1)]
      rcases h with h | ⟨q, hq, hqk⟩
      · exact .inl h
      · rcases List.mem_cons.1 hq with rfl | hq
        · exact absurd hqk hk
        · exact .inr ⟨q, hq, hqk⟩
theorem frame_of {a base : Act} (L : List (Nat × Value)) (n : Nat) (hn : base.tmps.size = n) (hc : (List.range n).all (fun k => freeT ops k || (L.map (·.1)).contains k) = true) (hd : a.defers = base.defers) (ht : a.tmps.size = base.tmps.size)
    (hr : ∀ k, freeT ops k = true → a.tmps.getD k undef = base.tmps.getD k undef) (hL : ∀ p ∈ L, a.tmps.getD p.1 undef = p.2) : a = putL L base := by
  have e : a.tmps = (putL L base).tmps := by
    apply Array.ext
    · rw [putL_size, ht]
    · intro k h1 h2
      have := putL_get a L base ht hL k (by
        have h3 := List.all_eq_true.1 hc k (List.mem_range.2 (by omega))
        rcases Bool.or_eq_true_iff.1 h3 with h3 | h3
        · exact .inl (hr k h3)
        · refine .inr ?_
          have := List.contains_iff_mem.1 h3
          obtain ⟨p, hp, hpk⟩ := List.mem_map.1 this
          exact ⟨p, hp, hpk⟩)
      rw [Array.getD, Array.getD] at this
      rw [dif_pos h2, dif_pos h1] at this
      exact this.symm
  have e2 : a.defers = (putL L base).defers := hd.trans (putL_defers L base).symm
  cases a
  cases h : putL L base
  rw [h] at e e2
  simp only at e e2
  rw [e, e2]
end
end Go.Proofs.Ytjhpffenlhfilaa.Mem

namespace Go.Proofs.Ytjhpffenlhfilaa
open Go.RowKit Mem

def ptrTo (g : Nat) : Value := .pointer (some ⟨g, 0, none⟩)
theorem ptrTo_inj {g g' : Nat} (h : ptrTo g = ptrTo g') : g = g' := by
  unfold ptrTo at h
  injection h with h
  injection h with h
  injection h

/-- What stands in all worlds of the drawn region of a law that makes two blocks: the seed's block, the old world, the two new blocks apart (in the slots x and y). -/
structure Two (W : World) (gs : Nat) (T : TypeId) (S : List Value) (x y : Nat) (a : Act) (w : World) : Prop where
  seed : B w gs T S
  below : Below W.heap.size W w
  fst : ∀ g, a.tmps.getD x undef = ptrTo g → g < w.heap.size
  snd : ∀ g, a.tmps.getD y undef = ptrTo g → g < w.heap.size
  apart : ∀ g g', a.tmps.getD x undef = ptrTo g → a.tmps.getD y undef = ptrTo g' → g ≠ g'

section
variable {W w w' : World} {gs x y : Nat} {T : TypeId} {S : List Value} {a : Act}
theorem Two.put (h : Two W gs T S x y a w) (hb : Below w.heap.size w w') {d : Nat} (v : Value) (hx : d ≠ x) (hy : d ≠ y) : Two W gs T S x y (a.put (some d) v) w' := by
  refine ⟨h.seed.call hb, below_call h.below h.below.size hb, ?_, ?_, ?_⟩
  · rw [put_get_ne a v hx]; exact fun g e => Nat.lt_of_lt_of_le (h.fst g e) hb.size
  · rw [put_get_ne a v hy]; exact fun g e => Nat.lt_of_lt_of_le (h.snd g e) hb.size
  · rw [put_get_ne a v hx, put_get_ne a v hy]; exact h.apart
theorem Two.put1 (h : Two W gs T S x y a w) (hb : Below w.heap.size w w') (g : Nat) (hg : w.heap.size ≤ g) (hlt : g < w'.heap.size) (hxy : x ≠ y) (hs : x < a.tmps.size) : Two W gs T S x y (a.put (some x) (ptrTo g)) w' := by
  refine ⟨h.seed.call hb, below_call h.below h.below.size hb, ?_, ?_, ?_⟩
  · rw [put_get_eq a _ hs]; exact fun g' e => ptrTo_inj e ▸ hlt
  · rw [put_get_ne a _ hxy]; exact fun g e => Nat.lt_of_lt_of_le (h.snd g e) hb.size
  · rw [put_get_eq a _ hs, put_get_ne a _ hxy]
    intro g1 g2 e1 e2
    have := ptrTo_inj e1
    have := h.snd g2 e2
    omega
theorem Two.put2 (h : Two W gs T S x y a w) (hb : Below w.heap.size w w') (g : Nat) (hg : w.heap.size ≤ g) (hlt : g < w'.heap.size) (hxy : x ≠ y) (hs : y < a.tmps.size) : Two W gs T S x y (a.put (some y) (ptrTo g)) w' := by
  refine ⟨h.seed.call hb, below_call h.below h.below.size hb, ?_, ?_, ?_⟩
  · rw [put_get_ne a _ (Ne.symm hxy)]; exact fun g e => Nat.lt_of_lt_of_le (h.fst g e) hb.size
  · rw [put_get_eq a _ hs]; exact fun g' e => ptrTo_inj e ▸ hlt
  · rw [put_get_eq a _ hs, put_get_ne a _ (Ne.symm hxy)]
    intro g1 g2 e1 e2
    have := ptrTo_inj e2
    have := h.fst g1 e1
    omega
end

/-- A fact of a slot: it has this value, or a block of this content that lies behind the seed's. -/
inductive Fa where
  | val (v : Value)
  | blk (gs : Nat) (T : TypeId) (l : List Value)
  | nil
def Fa.ok : Fa → Value → World → Prop
  | .val v, u, _ => u = v
  | .blk gs T l, u, w => ∃ g, u = ptrTo g ∧ gs < g ∧ B w g T l
  | .nil, _, _ => True
theorem Fa.keep {w w' : World} (hb : Below w.heap.size w w') : ∀ {f : Fa} {u : Value}, f.ok u w → f.ok u w'
  | .val _, _, h => h
  | .blk .., _, ⟨g, h1, h2, h3⟩ => ⟨g, h1, h2, h3.call hb⟩
  | .nil, _, h => h

theorem step_load_whole {P : Program} {ops : Array Oper} {o : Oper} {a : Act} {w : World} {K : Act → World → Prop} {Q : Exit → Act → World → Prop} {E : Prop} (hgd : o.guard = none) (ty : TypeId) (x : Operand) (ho : o.op = .load ty x) (g : Nat) (hx : a.eval x = .pointer (some ⟨g, 0, none⟩)) {T : TypeId} {l : List Value} (hB : B w g T l)
    {d : TypeDesc} (hu : P.underlying ty = some d) (hd : d.isRow = true) (hi : (P.info? ty).map (·.size) = some l.length) (h : K (a.put o.dst (.agg l.toArray)) w) :
    if Region.wanted o (yielded ops a.tmps) = true then Oper.wp P o a w K Q else E :=
  step_load_at hgd ty x ho g 0 hx hB l (by rw [List.drop_zero]; exact List.take_length) hu hd hi h
theorem step_bin {P : Program} {ops : Array Oper} {o : Oper} {a : Act} {w : World} {K : Act → World → Prop} {Q : Exit → Act → World → Prop} {E : Prop} (hgd : o.guard = none) (op : BinOp) (t t2 : TypeId) (x y : Operand) (ho : o.op = .binOp op t x y t2) (vx vy v : Value) (hx : a.eval x = vx) (hy : a.eval y = vy)
    (hq : eqGuard op t x y vx vy = pure ()) (hop : (binOp op t vx vy).run P w = .ok v w) (h : K (a.put o.dst v) w) :
    if Region.wanted o (yielded ops a.tmps) = true then Oper.wp P o a w K Q else E := by
  rw [if_pos (by simp [Region.wanted, hgd])]
  unfold Oper.wp execOp
  simp only [ho, hx, hy, hq, Sem.run_bind, Sem.run_pure, Result.andThen_ok, hop]
  exact h
end Go.Proofs.Ytjhpffenlhfilaa
