/- Drawn regions that build a row of the call's own and hand it on: blocks of slots apart, facts of slots, the step of each kind of operation. -/
import Derived.Test.YtjhpffenlhfilaaFacts
import Derived.Test.YtjhpffenlhfilaaLRun
import Derived.Deep.Onto
namespace Go.Proofs.Ytjhpffenlhfilaa
open Go.RowKit Ch Mem

/-- The block that a value points into. -/
def blkOf : Value → Option Nat
  | .pointer (some a) => some a.block
  | v => v.ownBlock
theorem blkOf_own {w : World} {base n size : Nat} {t : TypeId} {v : Value} {xs : List Value} (h : w.ownsRow base t size v n xs) : blkOf v = v.ownBlock := by
  obtain ⟨A, c, rfl, _⟩ := own_slice h
  rfl

/-- What stands all along the region: the old world, the seed's block, the argument, the blocks of slots of unlike classes apart. -/
structure Sep (W : World) (cls : Nat → Nat) (gs : Nat) (T : TypeId) (S : List Value) (A : Option Addr) (n : Nat) (xs : List Value) (a : Act) (w : World) : Prop where
  below : Below W.heap.size W w
  seed : B w gs T S
  arg : Reads w W.heap.size 1 A n xs
  lt : ∀ k, 0 < cls k → ∀ g, blkOf (a.tmps.getD k undef) = some g → W.heap.size ≤ g ∧ g < w.heap.size ∧ g ≠ gs
  apart : ∀ k k', 0 < cls k → 0 < cls k' → cls k ≠ cls k' → ∀ g, blkOf (a.tmps.getD k undef) = some g → blkOf (a.tmps.getD k' undef) ≠ some g

section
variable {W w w' : World} {cls : Nat → Nat} {gs n : Nat} {T : TypeId} {S xs : List Value} {A : Option Addr} {a : Act}
theorem Sep.put0 (h : Sep W cls gs T S A n xs a w) (hb : Below w.heap.size w w') {d : Nat} (v : Value) (hd : cls d = 0) : Sep W cls gs T S A n xs (a.put (some d) v) w' := by
  have hne : ∀ k, 0 < cls k → d ≠ k := fun k hk he => by rw [← he, hd] at hk; exact absurd hk (Nat.lt_irrefl _)
  refine ⟨below_call h.below h.below.size hb, h.seed.call hb, h.arg.below (hb.mono h.below.size), fun k hk g hg => ?_, fun k k' hk hk' hc g hg => ?_⟩
  · rw [put_get_ne a v (hne k hk)] at hg
    obtain ⟨h1, h2, h3⟩ := h.lt k hk g hg
    exact ⟨h1, Nat.lt_of_lt_of_le h2 hb.size, h3⟩
  · rw [put_get_ne a v (hne k hk)] at hg
    rw [put_get_ne a v (hne k' hk')]
    exact h.apart k k' hk hk' hc g hg
theorem Sep.new (h : Sep W cls gs T S A n xs a w) (hb : Below w.heap.size w w') {d : Nat} (v : Value) (g : Nat) (hv : blkOf v = some g) (hg : w.heap.size ≤ g) (hlt : g < w'.heap.size) (hs : d < a.tmps.size) : Sep W cls gs T S A n xs (a.put (some d) v) w' := by
  have hsl := h.seed.lt
  have hWs := h.below.size
  refine ⟨below_call h.below h.below.size hb, h.seed.call hb, h.arg.below (hb.mono h.below.size), fun k hk x hx => ?_, fun k k' hk hk' hc x hx hx' => ?_⟩
  · by_cases hkd : d = k
    · subst hkd
      rw [put_get_eq a v hs, hv] at hx
      injection hx with hx
      subst hx
      exact ⟨by omega, hlt, by omega⟩
    · rw [put_get_ne a v hkd] at hx
      obtain ⟨h1, h2, h3⟩ := h.lt k hk x hx
      exact ⟨h1, Nat.lt_of_lt_of_le h2 hb.size, h3⟩
  · by_cases hkd : d = k
    · subst hkd
      rw [put_get_eq a v hs, hv] at hx
      injection hx with hx
      rw [put_get_ne a v (fun he => hc (by rw [he]))] at hx'
      have := h.lt k' hk' x hx'
      omega
    · rw [put_get_ne a v hkd] at hx
      by_cases hkd' : d = k'
      · subst hkd'
        rw [put_get_eq a v hs, hv] at hx'
        injection hx' with hx'
        have := h.lt k hk x hx
        omega
      · rw [put_get_ne a v hkd'] at hx'
        exact h.apart k k' hk hk' hc x hx hx'
theorem Sep.app (h : Sep W cls gs T S A n xs a w) {d e : Nat} (v : Value) (row : Option Nat) (hrow : blkOf (a.tmps.getD e undef) = row) (hg : w.grownBy w' row) (hv : blkOf v = row ∨ blkOf v = some w.heap.size) (hlt : ∀ g, blkOf v = some g → g < w'.heap.size)
    (he : 0 < cls e) (hed : cls e = cls d) (hs : d < a.tmps.size) : Sep W cls gs T S A n xs (a.put (some d) v) w' := by
  have hsl := h.seed.lt
  have hWs := h.below.size
  have hr : ∀ g, row = some g → W.heap.size ≤ g ∧ g < w.heap.size ∧ g ≠ gs := fun g hg => h.lt e he g (hrow.trans hg)
  refine ⟨⟨hg.os.trans h.below.os, hg.tape.trans h.below.tape, hg.output.trans h.below.output, Nat.le_trans hWs hg.size, fun k hk => ?_⟩, h.seed.grown hg fun hc => (hr gs hc.symm).2.2 rfl, h.arg.grown hg hWs fun g hg => (hr g hg).1, fun k hk x hx => ?_, fun k k' hk hk' hc x hx hx' => ?_⟩
  · exact (hg.block k (by omega) (fun hc => by have := (hr k hc.symm).1; omega)).trans (h.below.block k hk)
  · by_cases hkd : d = k
    · subst hkd
      rw [put_get_eq a v hs] at hx
      refine ⟨?_, hlt x hx, ?_⟩
      · rcases hv with hv | hv
        · exact (hr x (hv.symm.trans hx)).1
        · rw [hv] at hx; injection hx with hx; omega
      · rcases hv with hv | hv
        · exact (hr x (hv.symm.trans hx)).2.2
        · rw [hv] at hx; injection hx with hx; omega
    · rw [put_get_ne a v hkd] at hx
      obtain ⟨h1, h2, h3⟩ := h.lt k hk x hx
      exact ⟨h1, Nat.lt_of_lt_of_le h2 hg.size, h3⟩
  · by_cases hkd : d = k
    · subst hkd
      rw [put_get_eq a v hs] at hx
      rw [put_get_ne a v (fun he => hc (by rw [he]))] at hx'
      rcases hv with hv | hv
      · exact h.apart e k' he hk' (by rw [hed]; exact hc) x (hrow.trans (hv.symm.trans hx)) hx'
      · rw [hv] at hx
        injection hx with hx
        have := h.lt k' hk' x hx'
        omega
    · rw [put_get_ne a v hkd] at hx
      by_cases hkd' : d = k'
      · subst hkd'
        rw [put_get_eq a v hs] at hx'
        rcases hv with hv | hv
        · exact h.apart k e hk he (by rw [hed]; exact hc) x hx (hrow.trans (hv.symm.trans hx'))
        · rw [hv] at hx'
          injection hx' with hx'
          have := h.lt k hk x hx
          omega
      · rw [put_get_ne a v hkd'] at hx'
        exact h.apart k k' hk hk' hc x hx hx'
end

theorem Sep.start {W w : World} {cls : Nat → Nat} {gs n : Nat} {T : TypeId} {S xs : List Value} {A : Option Addr} {a : Act} (hb : Below W.heap.size W w) (hs : B w gs T S) (hr : Reads w W.heap.size 1 A n xs) (m : Nat) (hm : a.tmps.size = m)
    (h : (List.range m).all (fun k => cls k == 0 || (blkOf (a.tmps.getD k undef)).isNone) = true) : Sep W cls gs T S A n xs a w := by
  have hn : ∀ k, 0 < cls k → blkOf (a.tmps.getD k undef) = none := fun k hk => by
    by_cases hlt : k < m
    · have := List.all_eq_true.1 h k (List.mem_range.2 hlt)
      rcases Bool.or_eq_true_iff.1 this with h1 | h1
      · rw [beq_iff_eq] at h1; omega
      · exact Option.isNone_iff_eq_none.1 h1
    · have : a.tmps.getD k undef = undef := by simp [Array.getD, hm, hlt]
      rw [this]; rfl
  exact ⟨hb, hs, hr, fun k hk g hg => (by rw [hn k hk] at hg; cases hg), fun k _ hk _ _ g hg => (by rw [hn k hk] at hg; cases hg)⟩

/-- What a run gives. -/
def GoodRun (w : World) (M : Nat) (x : G) (L : List Int) (m : Nat) (v : Value) : Prop :=
  ∃ Ds, Ds.length = m ∧ (∀ d ∈ Ds, d.oneCell' = true) ∧ w.ownsRow M 40 3 v m (anss x L Ds) ∧ LastD w x L Ds M m
theorem LastD.call {w w' : World} {x : G} {L : List Int} {Ds : List Value} {M k : Nat} (h : LastD w x L Ds M k) (hb : Below w.heap.size w w') : LastD w' x L Ds M k := fun j hj hL =>
  let ⟨g, c, r, h1, h2, h3, h4⟩ := h j hj hL
  ⟨g, c, r, h1, h2, h3, h4.call hb⟩
theorem LastD.only {w w' : World} {x : G} {L : List Int} {Ds : List Value} {M k g0 : Nat} {t : TypeId} {l : List Value} (h : LastD w x L Ds M k) (hg : B w g0 t l) (hne : 5 ≠ t) (hO : Only g0 w w') : LastD w' x L Ds M k := fun j hj hL =>
  let ⟨g, c, r, h1, h2, h3, h4⟩ := h j hj hL
  ⟨g, c, r, h1, h2, h3, h4.only hO (h4.ne_ hg hne)⟩
theorem LastD.mono {w : World} {x : G} {L : List Int} {Ds : List Value} {M M' k : Nat} (h : LastD w x L Ds M k) (hM : M' ≤ M) : LastD w x L Ds M' k := fun j hj hL =>
  let ⟨g, c, r, h1, h2, h3, h4⟩ := h j hj hL
  ⟨g, c, r, h1, Nat.le_trans hM h2, h3, h4⟩
theorem GoodRun.call {w w' : World} {M m : Nat} {x : G} {L : List Int} {v : Value} (h : GoodRun w M x L m v) (hb : Below w.heap.size w w') : GoodRun w' M x L m v :=
  let ⟨Ds, h1, h2, h3, h4⟩ := h
  ⟨Ds, h1, h2, own_call h3 hb, LastD.call h4 hb⟩

/-- A fact of a slot. -/
inductive Fb where
  | val (v : Value)
  | own (M : Nat) (T : TypeId) (n : Nat) (xs : List Value)
  | lit (T : TypeId) (k : Nat) (cs : List Value)
  | blk (T : TypeId) (l : List Value)
  | tup (M : Nat) (x : G) (L : List Int) (m : Nat)
  | run (M : Nat) (x : G) (L : List Int) (m : Nat)
  | nil
def Fb.ok : Fb → Value → World → Prop
  | .val v, u, _ => u = v
  | .own M T n xs, u, w => w.ownsRow M T 1 u n xs
  | .lit T k cs, u, w => ∃ g, u = .slice (some ⟨g, 0, none⟩) k k ∧ B w g T cs
  | .blk T l, u, w => ∃ g, u = ptrTo g ∧ B w g T l
  | .tup M x L m, u, w => ∃ v, u = .tuple #[v, .agg (x.run L).parts.toArray] ∧ GoodRun w M x L m v
  | .run M x L m, u, w => GoodRun w M x L m u
  | .nil, _, _ => True
def Fb.plain : Fb → Bool
  | .val _ | .nil => true
  | _ => false
def Fb.held : Fb → Bool
  | .own .. | .lit .. | .blk .. => true
  | _ => false
theorem Fb.keep {w w' : World} (hb : Below w.heap.size w w') : ∀ {f : Fb} {u : Value}, f.ok u w → f.ok u w'
  | .val _, _, h => h
  | .own .., _, h => own_call h hb
  | .lit .., _, ⟨g, h1, h2⟩ => ⟨g, h1, h2.call hb⟩
  | .blk .., _, ⟨g, h1, h2⟩ => ⟨g, h1, h2.call hb⟩
  | .tup .., _, ⟨v, h1, h2⟩ => ⟨v, h1, h2.call hb⟩
  | .run .., _, h => GoodRun.call h hb
  | .nil, _, h => h
theorem Fb.keepPlain {w w' : World} : ∀ {f : Fb} {u : Value}, f.plain = true → f.ok u w → f.ok u w'
  | .val _, _, _, h => h
  | .nil, _, _, h => h
theorem Fb.grown {w w' : World} {row : Option Nat} (hg : w.grownBy w' row) : ∀ {f : Fb} {u : Value}, f.held = true → (∀ g, blkOf u = some g → row ≠ some g) → f.ok u w → f.ok u w'
  | .own .., u, _, hu, h => own_same h fun g he hlt => hg.block g hlt fun hc => hu g ((blkOf_own h).trans he) hc.symm
  | .lit .., _, _, hu, ⟨g, h1, h2⟩ => ⟨g, h1, h2.grown hg fun hc => hu g (by rw [h1]; rfl) hc.symm⟩
  | .blk .., _, _, hu, ⟨g, h1, h2⟩ => ⟨g, h1, h2.grown hg fun hc => hu g (by rw [h1]; rfl) hc.symm⟩

def okF (F : Nat → Fb) (i : Nat) (v : Value) (w : World) : Prop := (F i).ok v w
theorem okF_of {F : Nat → Fb} {i : Nat} {f : Fb} (h : F i = f) {v : Value} {w : World} (hk : f.ok v w) : okF F i v w := by unfold okF; rw [h]; exact hk
theorem of_okF {F : Nat → Fb} {i : Nat} {f : Fb} (h : F i = f) {v : Value} {w : World} (hk : okF F i v w) : f.ok v w := by unfold okF at hk; rw [h] at hk; exact hk

section
variable {ops : Array Oper} {md : Region.Mode} {Q : Exit → Act → World → Prop} {F : Nat → Fb} {W : World} {cls : Nat → Nat} {gs n : Nat} {T : TypeId} {S xs : List Value} {A : Option Addr} {pre del : Nat → List Nat} {base : Act} {o : Oper} {j d : Nat}

/-- The step law of a region of such facts. -/
abbrev StepF (ops : Array Oper) (md : Region.Mode) (Q : Exit → Act → World → Prop) (F : Nat → Fb) (W : World) (cls : Nat → Nat) (gs : Nat) (T : TypeId) (S : List Value) (A : Option Addr) (n : Nat) (xs : List Value) (pre del : Nat → List Nat) (base : Act) (j : Nat) : Prop :=
  StepOk Try.prog md ops Q (okF F) (Sep W cls gs T S A n xs) pre del base j

theorem slot_tmp {o : Oper} {a : Act} (hd : o.dst = some d) : slotOf o a = a.tmps.getD d undef := by unfold slotOf; rw [hd]

theorem stepF_load (hj : ops[j]? = some o) (hd : o.dst = some d) (hc : cls d = 0) (hgd : o.guard = none) (ty : TypeId) (sl : Nat) (ho : o.op = .load ty (.tmp sl)) (hf : freeT ops sl = true) (hb : base.tmps.getD sl undef = .pointer (some ⟨gs, 0, none⟩))
    {td : TypeDesc} (hu : Try.prog.underlying ty = some td) (hr : td.isRow = true) (hi : (Try.prog.info? ty).map (·.size) = some S.length) (hF : F j = .val (.agg S.toArray)) : StepF ops md Q F W cls gs T S A n xs pre del base j := by
  intro o' ho' a w K hde ht hre hC hp hK
  obtain rfl : o = o' := Option.some.inj (hj.symm.trans ho')
  refine step_load_whole hgd _ _ ho gs ((eval_tmp a sl).trans ((hre sl hf).trans hb)) hC.seed hu hr hi ?_
  refine hK _ _ (fun h => by rw [hd] at h; cases h) (by rw [hd]; exact hC.put0 (Below.refl _ _) _ hc) (okF_of hF rfl) fun _ _ _ _ _ _ h => h
theorem stepF_const (hj : ops[j]? = some o) (hd : o.dst = some d) (hc : cls d = 0) (hgd : o.guard = none) (sl : Nat) (ho : o.op = .move (.tmp sl)) (hf : freeT ops sl = true) (v : Value) (hb : base.tmps.getD sl undef = v) (hF : F j = .val v) : StepF ops md Q F W cls gs T S A n xs pre del base j := by
  intro o' ho' a w K hde ht hre hC hp hK
  obtain rfl : o = o' := Option.some.inj (hj.symm.trans ho')
  refine step_move hgd _ ho _ ((eval_tmp a sl).trans ((hre sl hf).trans hb)) ?_
  exact hK _ _ (fun h => by rw [hd] at h; cases h) (by rw [hd]; exact hC.put0 (Below.refl _ _) _ hc) (okF_of hF rfl) fun _ _ _ _ _ _ h => h
theorem stepF_mov (hj : ops[j]? = some o) (hd : o.dst = some d) (hc : cls d = 0) (hgd : o.guard = none) (i e : Nat) (ho : o.op = .move (.tmp e) ∨ o.op = .assign (.tmp e)) (oi : Oper) (hi : ops[i]? = some oi) (hie : oi.dst = some e) (hpre : i ∈ pre j) (hF : F j = F i) : StepF ops md Q F W cls gs T S A n xs pre del base j := by
  intro o' ho' a w K hde ht hre hC hp hK
  obtain rfl : o = o' := Option.some.inj (hj.symm.trans ho')
  have hf := hp i hpre oi hi
  rw [slot_tmp hie] at hf
  have hK' := hK (a.tmps.getD e undef) w (fun h => by rw [hd] at h; cases h) (by rw [hd]; exact hC.put0 (Below.refl _ _) _ hc) (okF_of (hF.trans rfl) hf) fun _ _ _ _ _ _ h => h
  rcases ho with ho | ho
  · exact step_move hgd _ ho _ (eval_tmp a e) hK'
  · rw [if_pos (by simp [Region.wanted, hgd])]
    unfold Oper.wp execOp
    simp only [ho, eval_tmp, Sem.run_pure]
    exact hK'
theorem stepF_ext (hj : ops[j]? = some o) (hd : o.dst = some d) (hc : cls d = 0) (hgd : o.guard = none) (i e ix : Nat) (ho : o.op = .extract (.tmp e) ix) (oi : Oper) (hi : ops[i]? = some oi) (hie : oi.dst = some e) (hpre : i ∈ pre j) (M : Nat) (x : G) (L : List Int) (m : Nat) (hFi : F i = .tup M x L m)
    (hF : (ix = 0 ∧ F j = .run M x L m) ∨ (ix = 1 ∧ F j = .val (.agg (x.run L).parts.toArray))) : StepF ops md Q F W cls gs T S A n xs pre del base j := by
  intro o' ho' a w K hde ht hre hC hp hK
  obtain rfl : o = o' := Option.some.inj (hj.symm.trans ho')
  have hf := hp i hpre oi hi
  replace hf := of_okF hFi hf
  rw [slot_tmp hie] at hf
  obtain ⟨v, hv, hg⟩ := hf
  rw [if_pos (by simp [Region.wanted, hgd])]
  unfold Oper.wp execOp
  rcases hF with ⟨rfl, hF⟩ | ⟨rfl, hF⟩
  · simp only [ho, eval_tmp, hv, Instr.extract, Sem.run_bind, Sem.run_pure]
    exact hK v w (fun h => by rw [hd] at h; cases h) (by rw [hd]; exact hC.put0 (Below.refl _ _) _ hc) (okF_of hF hg) fun _ _ _ _ _ _ h => h
  · simp only [ho, eval_tmp, hv, Instr.extract, Sem.run_bind, Sem.run_pure]
    exact hK (.agg (x.run L).parts.toArray) w (fun h => by rw [hd] at h; cases h) (by rw [hd]; exact hC.put0 (Below.refl _ _) _ hc) (okF_of hF rfl) fun _ _ _ _ _ _ h => h
theorem stepF_alloc (hj : ops[j]? = some o) (hd : o.dst = some d) (hs : d < base.tmps.size) (hgd : o.guard = none) (t : TypeId) (ho : o.op = .alloc t) (ti : TypeInfo) (z : Value) (l : List Value) (hi : Try.prog.info? t = some ti) (hz : ti.zero = some z) (hl : z.cells = l.toArray) (hF : F j = .blk t l) : StepF ops md Q F W cls gs T S A n xs pre del base j := by
  intro o' ho' a w K hde ht hre hC hp hK
  obtain rfl : o = o' := Option.some.inj (hj.symm.trans ho')
  refine step_alloc hgd _ ho ti _ l hi hz hl fun g w' h1 h2 h3 hb => ?_
  exact hK _ _ (fun h => by rw [hd] at h; cases h) (by rw [hd]; exact hC.new hb _ g rfl h1 h2 (by rw [ht]; exact hs)) (okF_of hF ⟨g, rfl, h3⟩) fun _ _ _ _ _ _ h => Fb.keep hb h
theorem stepF_lit (hj : ops[j]? = some o) (hd : o.dst = some d) (hs : d < base.tmps.size) (hgd : o.guard = none) (t : TypeId) (k : Nat) (parts : Array (Nat × Operand)) (ho : o.op = .buildSlice t k parts) (vals : List (Nat × Value)) (hv : ∀ a : Act, parts.toList.map (fun (i, x) => (i, a.eval x)) = vals) (e : TypeId) (cells : List Value)
    (hrun : ∀ w, (Instr.buildSlice t k vals.toArray).run Try.prog w = .ok (.slice (some ⟨w.heap.size, 0, none⟩) k k) (w.alloc (.cells cells.toArray e))) (hF : F j = .lit e k cells ∨ (k = 0 ∧ cells = [] ∧ F j = .own W.heap.size e 0 [])) : StepF ops md Q F W cls gs T S A n xs pre del base j := by
  intro o' ho' a w K hde ht hre hC hp hK
  obtain rfl : o = o' := Option.some.inj (hj.symm.trans ho')
  rw [if_pos (by simp [Region.wanted, hgd])]
  unfold Oper.wp execOp
  have hb : Below w.heap.size w (w.alloc (.cells cells.toArray e)) := (Below.refl _ _).alloc (Nat.le_refl _) _
  have hva : parts.map (fun (i, x) => (i, a.eval x)) = vals.toArray := by rw [← hv a]; apply Array.ext'; simp
  simp only [ho, hva, Sem.run_bind, hrun, Sem.run_pure, Result.andThen_ok]
  refine hK _ _ (fun h => by rw [hd] at h; cases h) (by rw [hd]; exact hC.new hb _ w.heap.size rfl (Nat.le_refl _) (by simp) (by rw [ht]; exact hs)) ?_ fun _ _ _ _ _ _ h => Fb.keep hb h
  rcases hF with hF | ⟨rfl, rfl, hF⟩
  · exact okF_of hF ⟨_, rfl, B.new w e cells⟩
  · exact okF_of hF ⟨rfl, .inr ⟨w.heap.size, 0, #[], rfl, hC.below.size, heap_alloc_new w _, Nat.le_refl _, Nat.zero_le _, rfl, rfl⟩⟩

/-- Each fact that an append may touch lies apart from the row. -/
def apartB (md : Region.Mode) (ops : Array Oper) (F : Nat → Fb) (cls : Nat → Nat) (del : Nat → List Nat) (j e : Nat) : Bool :=
  (List.range ops.size).all fun p => (del j).contains p || p == j || behind md ops 5 p j || (F p).plain ||
    ((F p).held && match ops[p]? with
      | some op => match op.dst with
        | some d => decide (0 < cls d) && !(cls d == cls e)
        | none => false
      | none => false)
theorem apartB_keep (hap : apartB md ops F cls del j d = true) (hd0 : 0 < cls d) {a : Act} {w w' : World} (hC : Sep W cls gs T S A n xs a w) {row : Option Nat} (hrow : blkOf (a.tmps.getD d undef) = row) (hg : w.grownBy w' row) :
    ∀ p op, ops[p]? = some op → p ∉ del j → p ≠ j → behind md ops 5 p j = false → okF F p (slotOf op a) w → okF F p (slotOf op a) w' := by
  intro p op hp hdel hpj hbe h
  have hx := List.all_eq_true.1 hap p (List.mem_range.2 (Array.getElem?_eq_some_iff.1 hp).1)
  have h1 : (del j).contains p = false := by simpa using hdel
  have h2 : (p == j) = false := beq_eq_false_iff_ne.2 hpj
  simp only [h1, h2, hbe, Bool.false_or] at hx
  rcases Bool.or_eq_true_iff.1 hx with hx | hx
  · exact Fb.keepPlain hx h
  · rw [Bool.and_eq_true, hp] at hx
    obtain ⟨hh, hx⟩ := hx
    cases hd : op.dst with
    | none => simp [hd] at hx
    | some dp =>
      simp only [hd, Bool.and_eq_true, decide_eq_true_eq, Bool.not_eq_true', beq_eq_false_iff_ne] at hx
      rw [slot_tmp hd] at h ⊢
      exact Fb.grown hg hh (fun g hgb hr => hC.apart dp d hx.1 hd0 hx.2 g hgb (hrow.trans hr)) h

/-- Where an append's second operand is read. -/
inductive Src (ops : Array Oper) (F : Nat → Fb) (pre : Nat → List Nat) (base : Act) (A : Option Addr) (n : Nat) (xs : List Value) (j : Nat) : Operand → Nat → List Value → Prop
  | arg (i e c : Nat) (oi : Oper) (hi : ops[i]? = some oi) (hie : oi.dst = some e) (hpre : i ∈ pre j) (hF : F i = .val (.slice A n c)) : Src ops F pre base A n xs j (.tmp e) n xs
  | lit (i e k : Nat) (T : TypeId) (cs : List Value) (oi : Oper) (hi : ops[i]? = some oi) (hie : oi.dst = some e) (hpre : i ∈ pre j) (hF : F i = .lit T k cs) (hk : cs.length = k) : Src ops F pre base A n xs j (.tmp e) k cs
  | own (i e k M : Nat) (T : TypeId) (cs : List Value) (oi : Oper) (hi : ops[i]? = some oi) (hie : oi.dst = some e) (hpre : i ∈ pre j) (hF : F i = .own M T k cs) : Src ops F pre base A n xs j (.tmp e) k cs

theorem info_int : (Try.prog.info? 3).map (fun i => (i.zero, i.size, i.bytes)) = some (some (.int .i64 0), 1, 8) := by kernel_rfl

theorem stepF_app (hj : ops[j]? = some o) (hd : o.dst = some d) (hs : d < base.tmps.size) (hgd : o.guard = none) (i e : Nat) (y : Operand) (ho : o.op = .call { callee := .builtin .append, args := #[.tmp e, y], argTypes := #[31, 31] })
    (oi : Oper) (hi : ops[i]? = some oi) (hie : oi.dst = some e) (hpre : i ∈ pre j) (k m : Nat) (ys zs : List Value) (hFi : F i = .own W.heap.size 3 k ys) (hsrc : Src ops F pre base A n xs j y m zs) (h1 : ∀ u ∈ zs, u.oneCell' = true)
    (hed : cls e = cls d) (he0 : 0 < cls e) (hap : apartB md ops F cls del j e = true) (hkm : k + m ≤ 100000) (hF : F j = .own W.heap.size 3 (k + m) (ys ++ zs)) : StepF ops md Q F W cls gs T S A n xs pre del base j := by
  intro o' ho' a w K hde ht hre hC hp hK
  obtain rfl : o = o' := Option.some.inj (hj.symm.trans ho')
  have hf := hp i hpre oi hi
  replace hf := of_okF hFi hf
  rw [slot_tmp hie] at hf
  have hown : w.ownsRow W.heap.size 3 1 (a.tmps.getD e undef) k ys := hf
  have hrow := blkOf_own hown
  obtain ⟨i0, hi0, hz0, hz1, hz2⟩ := info_parts info_int
  obtain ⟨Bs, As, cs, hx, hr⟩ : ∃ Bs As c, a.eval y = .slice As m c ∧ Reads w Bs 1 As m zs := by
    cases hsrc with
    | arg i2 e2 c oi2 hi2 hie2 hpre2 hF2 =>
      have hf2 := hp i2 hpre2 oi2 hi2
      replace hf2 := of_okF hF2 hf2
      rw [slot_tmp hie2] at hf2
      exact ⟨_, _, _, (eval_tmp a e2).trans hf2, hC.arg⟩
    | lit i2 e2 k2 T2 cs2 oi2 hi2 hie2 hpre2 hF2 hk2 =>
      have hf2 := hp i2 hpre2 oi2 hi2
      replace hf2 := of_okF hF2 hf2
      rw [slot_tmp hie2] at hf2
      obtain ⟨g, hg, hB⟩ := hf2
      exact ⟨_, _, _, (eval_tmp a e2).trans hg, reads_of_B hB hk2⟩
    | own i2 e2 k2 M2 T2 cs2 oi2 hi2 hie2 hpre2 hF2 =>
      have hf2 := hp i2 hpre2 oi2 hi2
      replace hf2 := of_okF hF2 hf2
      rw [slot_tmp hie2] at hf2
      obtain ⟨A2, c2, hv, hr⟩ := reads_of_own hf2
      exact ⟨_, _, _, (eval_tmp a e2).trans hv, hr⟩
  refine step_append_any w hgd _ _ _ ho W.heap.size 3 i0 (.int .i64 0) 1 8 Try.underlying31 hi0 hz0 hz1 hz2 rfl (by omega) _ k ys (eval_tmp a e) hown Bs As m cs zs hx hr h1 (by unfold maxLen; omega) (by omega) hC.below.size ?_
  intro v' w' hown' hg hv'
  rw [← hrow] at hg hv'
  have hb' := blkOf_own hown'
  refine hK _ _ (fun h => by rw [hd] at h; cases h) (by
    rw [hd]
    exact hC.app v' _ rfl hg (by rw [hb']; exact hv') (fun g hgb => own_lt hown' g (hb'.symm.trans hgb)) he0 hed (by rw [ht]; exact hs)) (okF_of hF hown') (apartB_keep hap he0 hC rfl hg)

theorem stepF_run (hbl : BlockC) (s0 s1 s2 s3 : V) (hj : ops[j]? = some o) (hd : o.dst = some d) (hc : cls d = 0) (hgd : o.guard = none) (i1 i2 e1 e2 : Nat) (ts : Array TypeId) (ho : o.op = .call { callee := .value (.func 24), args := #[.tmp e1, .tmp e2], argTypes := ts })
    (o1 o2 : Oper) (h1 : ops[i1]? = some o1) (h2 : ops[i2]? = some o2) (hd1 : o1.dst = some e1) (hd2 : o2.dst = some e2) (hp1 : i1 ∈ pre j) (hp2 : i2 ∈ pre j) (hF1 : F i1 = .val (.agg (u64s [s0, s1, s2, s3]).toArray)) (k : Nat) (hk : k ≤ 100000) (L : List Int) (hF2 : F i2 = .own W.heap.size 3 k (steps64 L))
    (hF : F j = .tup W.heap.size (seeded s0 s1 s2 s3) L k) : StepF ops md Q F W cls gs T S A n xs pre del base j := by
  intro o' ho' a w K hde ht hre hC hp hK
  obtain rfl : o = o' := Option.some.inj (hj.symm.trans ho')
  have hf1 := hp i1 hp1 o1 h1
  have hf2 := hp i2 hp2 o2 h2
  replace hf1 := of_okF hF1 hf1
  replace hf2 := of_okF hF2 hf2
  rw [slot_tmp hd1] at hf1
  rw [slot_tmp hd2] at hf2
  obtain ⟨A2, c2, hv, hr⟩ := reads_of_own hf2
  refine step_func hgd _ _ Try.func24 (by kernel_rfl) (by kernel_rfl) _ _ ho [.agg (u64s [s0, s1, s2, s3]).toArray, .slice A2 k c2] (by
    show [a.eval (.tmp e1), a.eval (.tmp e2)] = _
    rw [eval_tmp, eval_tmp, hv]
    exact congrArg (fun x => [x, _]) hf1) ((run_any hbl s0 s1 s2 s3 A2 k c2 L w.heap.size w hr (Nat.le_refl _) hk).mono ?_)
  rintro e w' ⟨v, Ds, rfl, h3, h4, h5, h6, hb⟩
  exact ⟨_, rfl, hK _ _ (fun h => by rw [hd] at h; cases h) (by rw [hd]; exact hC.put0 hb _ hc) (okF_of hF ⟨v, rfl, Ds, h3, h4, h5.mono hC.below.size, LastD.mono h6 hC.below.size⟩) fun _ _ _ _ _ _ h => Fb.keep hb h⟩
end
theorem lit0_run (w : World) : (Instr.buildSlice 31 0 #[]).run Try.prog w = .ok (.slice (some ⟨w.heap.size, 0, none⟩) 0 0) (w.alloc (.cells ([] : List Value).toArray 3)) := by kernel_rfl
theorem steps64_one (z : List Int) : ∀ v ∈ steps64 z, v.oneCell' = true := by
  intro v hv
  simp only [steps64, List.mem_map] at hv
  obtain ⟨i, _, rfl⟩ := hv
  rfl
end Go.Proofs.Ytjhpffenlhfilaa
