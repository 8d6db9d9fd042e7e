/- Blocks that are known whole, of whatever length: laws for one operation each (a new block; a part read or written; one cell read or written), with the world behind it as a variable of which only the block's cells and the frame are known. -/
import Derived.WalkKit
import Derived.WalkSpells
import Derived.Deep.MidRow
import Derived.Deep.Draws
import Derived.Laws.CopyRow
import Derived.Test.YtjhpffenlhfilaaMem
namespace Go.Proofs.Ytjhpffenlhfilaa.Mem
open Go.RowKit

/-- Block g is just the cells l of element type t; none is frozen. -/
def B (w : World) (g : Nat) (t : TypeId) (l : List Value) : Prop := w.heap[g]? = some (.cells l.toArray t (0, 0))

/-- Only block g has turned. -/
structure Only (g : Nat) (w w' : World) : Prop where
  os : w'.os = w.os
  tape : w'.tape = w.tape
  output : w'.output = w.output
  size : w'.heap.size = w.heap.size
  block : ∀ k, k ≠ g → w'.heap[k]? = w.heap[k]?

section
variable {w w' : World} {g g' : Nat} {t t' : TypeId} {l l' : List Value}

theorem Only.below (h : Only g w w') (b : Nat) (hb : b ≤ g) : Below b w w' := ⟨h.os, h.tape, h.output, by rw [h.size]; omega, fun k hk => h.block k (by omega)⟩
theorem Only.refl (g : Nat) (w : World) : Only g w w := ⟨rfl, rfl, rfl, rfl, fun _ _ => rfl⟩
theorem Only.trans {w'' : World} (h : Only g w w') (k : Only g w' w'') : Only g w w'' :=
  ⟨k.os.trans h.os, k.tape.trans h.tape, k.output.trans h.output, k.size.trans h.size, fun i hi => (k.block i hi).trans (h.block i hi)⟩
theorem Only.drewN (h : Only g w w') (n : Nat) : Only g w (w'.drewN n) := ⟨h.os, h.tape, h.output, h.size, h.block⟩
theorem Only.of_drewN {n : Nat} (h : Only g (w.drewN n) w') : Only g w w' := ⟨h.os, h.tape, h.output, h.size, h.block⟩
theorem Only.setCell (g i : Nat) (v : Value) (w : World) : Only g w (w.setCell ⟨g, i, none⟩ v) :=
  ⟨rfl, rfl, rfl, by simp, fun k hk => Below.heap_setCell w ⟨g, i, none⟩ v k hk⟩
theorem Only.setRow (g : Nat) (cs : Array Value) (w : World) : Only g w (w.setRow g cs) :=
  ⟨rfl, rfl, rfl, by simp, fun k hk => setRow_other w g k cs hk⟩

/-- Only blocks g and g' have turned. -/
structure Only2 (g g' : Nat) (w w' : World) : Prop where
  os : w'.os = w.os
  tape : w'.tape = w.tape
  output : w'.output = w.output
  size : w'.heap.size = w.heap.size
  block : ∀ k, k ≠ g → k ≠ g' → w'.heap[k]? = w.heap[k]?

theorem Only2.refl (g g' : Nat) (w : World) : Only2 g g' w w := ⟨rfl, rfl, rfl, rfl, fun _ _ _ => rfl⟩
theorem Only2.fst {w'' : World} (h : Only2 g g' w w') (k : Only g w' w'') : Only2 g g' w w'' :=
  ⟨k.os.trans h.os, k.tape.trans h.tape, k.output.trans h.output, k.size.trans h.size, fun i hi hj => (k.block i hi).trans (h.block i hi hj)⟩
theorem Only2.snd {w'' : World} (h : Only2 g g' w w') (k : Only g' w' w'') : Only2 g g' w w'' :=
  ⟨k.os.trans h.os, k.tape.trans h.tape, k.output.trans h.output, k.size.trans h.size, fun i hi hj => (k.block i hj).trans (h.block i hi hj)⟩
theorem Only2.below (h : Only2 g g' w w') (b : Nat) (hb : b ≤ g) (hb' : b ≤ g') : Below b w w' := ⟨h.os, h.tape, h.output, by rw [h.size]; omega, fun k hk => h.block k (by omega) (by omega)⟩
theorem Only2.drewN (h : Only2 g g' w w') (n : Nat) : Only2 g g' w (w'.drewN n) := ⟨h.os, h.tape, h.output, h.size, h.block⟩

theorem B.lt (h : B w g t l) : g < w.heap.size := by
  rcases Nat.lt_or_ge g w.heap.size with hlt | hge
  · exact hlt
  · unfold B at h; rw [Array.getElem?_eq_none hge] at h; cases h
theorem B.cell (h : B w g t l) (i : Nat) : w.cell? ⟨g, i, none⟩ = l[i]? := by
  have := cell_of_row w g i l.toArray t (0, 0) h
  simpa using this
theorem B.frozen (h : B w g t l) (i : Nat) : w.frozen? ⟨g, i, none⟩ = false := frozen_of_row w g i l.toArray t h
theorem B.drewN (h : B w g t l) (n : Nat) : B (w.drewN n) g t l := h
theorem B.drew (h : B w g t l) : B w.drew g t l := h
theorem B.alloc (h : B w g t l) (o : Obj) : B (w.alloc o) g t l := (Below.heap_alloc w o g h.lt).trans h
theorem B.set_ (h : B w g t l) (i : Nat) (u : Value) : B (w.setCell ⟨g, i, none⟩ u) g t (l.set i u) := by
  unfold B at h ⊢
  simp [World.setCell, Array.getElem?_modify, h]
theorem B.far (h : B w g t l) {p : Addr} (hp : g ≠ p.block) (u : Value) : B (w.setCell p u) g t l := (Below.heap_setCell w p u g hp).trans h
theorem B.below {b : Nat} (h : B w g t l) (hb : Below b w w') (hg : g < b) : B w' g t l := (hb.block g hg).trans h
theorem B.call (h : B w g t l) (hb : Below w.heap.size w w') : B w' g t l := (hb.block g h.lt).trans h
theorem B.only (h : B w g t l) (hb : Only g' w w') (hg : g ≠ g') : B w' g t l := (hb.block g hg).trans h
theorem B.only2 {g'' : Nat} (h : B w g t l) (hb : Only2 g' g'' w w') (hg : g ≠ g') (hg' : g ≠ g'') : B w' g t l := (hb.block g hg hg').trans h
theorem B.new (w : World) (t : TypeId) (l : List Value) : B (w.alloc (.cells l.toArray t)) w.heap.size t l := heap_alloc_new w _
theorem B.uniq (h : B w g t l) (h' : B w g t' l') : l = l' := by
  unfold B at h h'
  rw [h] at h'
  injection h' with h'
  injection h' with h1
  simpa using h1
theorem B.ne_ (h : B w g t l) (h' : B w g' t' l') (hne : t ≠ t') : g ≠ g' := by
  rintro rfl
  unfold B at h h'
  rw [h] at h'
  injection h' with h'
  injection h' with _ ht
  exact hne ht
theorem B.grown {row : Option Nat} (h : B w g t l) (hb : w.grownBy w' row) (hg : some g ≠ row) : B w' g t l := (hb.block g h.lt hg).trans h
/-- A row of the call's own is another block than one of another element type. -/
theorem own_ne {base : Nat} {e : TypeId} {size n : Nat} {v : Value} {xs : List Value} (h : w.ownsRow base e size v n xs) (hg : B w g t l) (hne : e ≠ t) : some g ≠ v.ownBlock := by
  rcases h.2 with ⟨rfl, _⟩ | ⟨g', cap, cur, rfl, _, hh, _⟩
  · simp [Value.ownBlock]
  · intro he
    have : g = g' := by simpa [Value.ownBlock] using he
    subst this
    unfold B at hg
    rw [hh] at hg
    injection hg with hg
    injection hg with _ ht
    exact hne ht
theorem own_base {base : Nat} {e : TypeId} {size n : Nat} {v : Value} {xs : List Value} (h : w.ownsRow base e size v n xs) : ∀ k, v.ownBlock = some k → base ≤ k := by
  intro k hk
  rcases h.2 with ⟨rfl, _⟩ | ⟨g', cap, cur, rfl, hg, _⟩
  · simp [Value.ownBlock] at hk
  · have : g' = k := by simpa [Value.ownBlock] using hk
    omega
theorem own_same {base : Nat} {e : TypeId} {size n : Nat} {v : Value} {xs : List Value} (h : w.ownsRow base e size v n xs) (hb : ∀ g, v.ownBlock = some g → g < w.heap.size → w'.heap[g]? = w.heap[g]?) : w'.ownsRow base e size v n xs := by
  refine ⟨h.1, ?_⟩
  rcases h.2 with h2 | ⟨g', cap, cur, rfl, hg, hh, r⟩
  · exact .inl h2
  · have hlt : g' < w.heap.size := by
      rcases Nat.lt_or_ge g' w.heap.size with hlt | hge
      · exact hlt
      · rw [Array.getElem?_eq_none hge] at hh; cases hh
    exact .inr ⟨g', cap, cur, rfl, hg, (hb g' rfl hlt).trans hh, r⟩
theorem own_call {base : Nat} {e : TypeId} {size n : Nat} {v : Value} {xs : List Value} (h : w.ownsRow base e size v n xs) (hb : Below w.heap.size w w') : w'.ownsRow base e size v n xs :=
  own_same h fun g _ hlt => hb.block g hlt
theorem own_only {base : Nat} {e : TypeId} {size n : Nat} {v : Value} {xs : List Value} (h : w.ownsRow base e size v n xs) (hg : B w g t l) (hne : e ≠ t) (hO : Only g w w') : w'.ownsRow base e size v n xs :=
  own_same h fun g' he _ => hO.block g' (fun e' => own_ne h hg hne (by rw [he, e']))

theorem B.rangeAt (h : B w g t l) (o : Nat) (part : List Value) (hp : (l.drop o).take part.length = part) : w.rangeAt g o part := fun j v hv => by
  rw [h.cell, ← hv, ← hp]
  have hj : j < part.length := (List.getElem?_eq_some_iff.1 hv).1
  rw [List.getElem?_take, if_pos hj, List.getElem?_drop]
end

section
variable {P : Program} {ops : Array Oper} {rest : List Oper} {o : Oper} {a : Act} {w : World} {Q : Exit → Act → World → Prop}

/-- A new block: 'var x T' whose variable lives in memory. -/
theorem wpList_alloc (hgd : o.guard = none) (T : TypeId) (ho : o.op = .alloc T) (ti : TypeInfo) (z : Value) (l : List Value) (hi : P.info? T = some ti) (hz : ti.zero = some z) (hl : z.cells = l.toArray)
    (h : ∀ g w', w.heap.size ≤ g → g < w'.heap.size → B w' g T l → Below w.heap.size w w' → wpList P ops Q rest (a.put o.dst (.pointer (some ⟨g, 0, none⟩))) w') : wpList P ops Q (o :: rest) a w := by
  refine wpList_plain hgd fun K hK => ?_
  unfold Oper.wp execOp
  have hrun : (Instr.alloc T true (.tuple #[])).run P w = .ok (.pointer (some ⟨w.heap.size, 0, none⟩)) (w.alloc (.cells l.toArray T)) := by
    simp [Instr.alloc, zeroValue, typeInfo, hi, hz, newVar, newRow, hl]
  simp only [ho, Sem.run_bind, hrun, Result.andThen_ok, Sem.run_pure]
  exact hK _ _ (h w.heap.size _ (Nat.le_refl _) (by simp) (B.new w T l) ((Below.refl _ _).alloc (Nat.le_refl _) _))

theorem run_make_B (t e : TypeId) (ti : TypeInfo) (z : Value) (ht : P.underlying t = some (.slice e)) (hi : P.info? e = some ti) (hz : ti.zero = some z) (hs : ti.size = 1) (hz1 : z.cells = #[z])
    (kl kc : IntKind) (n : Nat) (hbytes : ti.bytes * n ≤ 281474976710656) (hn : n ≤ 9223372036854775807) :
    ∃ w', (Instr.makeSlice t (.int kl (n : Int)) (.int kc (n : Int))).run P w = .ok (.slice (some ⟨w.heap.size, 0, none⟩) n n) w' ∧ w.heap.size < w'.heap.size ∧ B w' w.heap.size e (List.replicate n z) ∧ Below w.heap.size w w' := by
  have hb' : (ti.bytes : Int) * (n : Int) ≤ 281474976710656 := by
    have h : ((ti.bytes * n : Nat) : Int) ≤ 281474976710656 := by omega
    rwa [Int.natCast_mul] at h
  have hr := run_make (P := P) w t e ti z ht hi hz kl kc n n (by omega) (Int.le_refl _) hb' (by omega)
  simp only [Int.toNat_natCast, hs, Nat.mul_one, hz1] at hr
  have e1 : madeCells #[z] n = (List.replicate n z).toArray := by rw [← toList_madeCells_one, Array.toArray_toList]
  rw [e1] at hr
  exact ⟨_, hr, by simp, B.new w e _, (Below.refl _ _).alloc (Nat.le_refl _) _⟩

/-- make([]T, n). -/
theorem wpList_make_B (hgd : o.guard = none) (t e : TypeId) (x y : Operand) (ho : o.op = .makeSlice t x y) (ti : TypeInfo) (z : Value) (ht : P.underlying t = some (.slice e)) (hi : P.info? e = some ti) (hz : ti.zero = some z) (hs : ti.size = 1) (hz1 : z.cells = #[z])
    (kl kc : IntKind) (n : Nat) (hx : a.eval x = .int kl (n : Int)) (hy : a.eval y = .int kc (n : Int)) (hbytes : ti.bytes * n ≤ 281474976710656) (hn : n ≤ 9223372036854775807)
    (h : ∀ g w', w.heap.size ≤ g → g < w'.heap.size → B w' g e (List.replicate n z) → Below w.heap.size w w' → wpList P ops Q rest (a.put o.dst (.slice (some ⟨g, 0, none⟩) n n)) w') : wpList P ops Q (o :: rest) a w := by
  refine wpList_plain hgd fun K hK => ?_
  unfold Oper.wp execOp
  obtain ⟨w', hr, h1, h2, h3⟩ := run_make_B (P := P) (w := w) t e ti z ht hi hz hs hz1 kl kc n hbytes hn
  simp only [ho, hx, hy, Sem.run_bind, hr, Result.andThen_ok, Sem.run_pure]
  exact hK _ _ (h w.heap.size w' (Nat.le_refl _) h1 h2 h3)

/-- A literal without parts: the zero value. -/
theorem wpList_build0 (hgd : o.guard = none) (T : TypeId) (ho : o.op = .build T #[]) (v : Value) (hrun : ∀ w, (Instr.build T #[]).run P w = .ok v w)
    (h : wpList P ops Q rest (a.put o.dst v) w) : wpList P ops Q (o :: rest) a w := by
  refine wpList_plain hgd fun K hK => ?_
  unfold Oper.wp execOp
  simp only [ho, List.map_toArray, List.map_nil, Sem.run_bind, hrun, Result.andThen_ok, Sem.run_pure]
  exact hK _ _ h

/-- A parameter (or another value) laid into a new block. -/
theorem wpList_box (hgd : o.guard = none) (T : TypeId) (x : Operand) (ho : o.op = .box T x) (v : Value) (l : List Value) (hx : a.eval x = v) (hl : v.cells = l.toArray)
    (h : ∀ g w', w.heap.size ≤ g → g < w'.heap.size → B w' g T l → Below w.heap.size w w' → wpList P ops Q rest (a.put o.dst (.pointer (some ⟨g, 0, none⟩))) w') : wpList P ops Q (o :: rest) a w := by
  refine wpList_plain hgd fun K hK => ?_
  unfold Oper.wp execOp
  have hrun : (Instr.box T v).run P w = .ok (.pointer (some ⟨w.heap.size, 0, none⟩)) (w.alloc (.cells l.toArray T)) := by
    simp [Instr.box, newVar, newRow, hl]
  simp only [ho, hx, Sem.run_bind, hrun, Result.andThen_ok, Sem.run_pure]
  exact hK _ _ (h w.heap.size _ (Nat.le_refl _) (by simp) (B.new w T l) ((Below.refl _ _).alloc (Nat.le_refl _) _))

/-- A part of a block (an array, a struct) read as one value. -/
theorem wpList_load_part (hgd : o.guard = none) (ty : TypeId) (x : Operand) (ho : o.op = .load ty x) (g off : Nat) (hx : a.eval x = .pointer (some ⟨g, off, none⟩)) {T : TypeId} {l : List Value} (hB : B w g T l)
    (part : List Value) (hp : (l.drop off).take part.length = part) {d : TypeDesc} (hu : P.underlying ty = some d) (hd : d.isRow = true) (hi : (P.info? ty).map (·.size) = some part.length)
    (h : wpList P ops Q rest (a.put o.dst (.agg part.toArray)) w) : wpList P ops Q (o :: rest) a w :=
  wpList_load_mid hgd ty x ho g off hx part d (hB.rangeAt off part hp) hu hd hi h

theorem run_storeVar_part (ty : TypeId) (g off : Nat) {T : TypeId} {l : List Value} (hB : B w g T l) (part : List Value) (hfit : off + part.length ≤ l.length) (h1 : ∀ v ∈ part, v.oneCell' = true)
    (hi : (P.info? ty).map (·.size) = some part.length) :
    (storeVar ty ⟨g, off, none⟩ (.agg part.toArray)).run P w = .ok () (w.setRow g (l.take off ++ part ++ l.drop (off + part.length)).toArray) := by
  have hs := run_storeCells_at P g off T part 0 l.toArray w hB (by simpa using hfit) h1
  simp only [Nat.add_zero] at hs
  cases hq : P.info? ty with
  | none => simp [hq] at hi
  | some i =>
    have hsz : i.size = part.length := by simpa [hq] using hi
    simp [storeVar, sizeOf, typeInfo, hq, Value.cells, hsz, hs]

/-- A value of several cells (an array, a struct) written into a part of a block. -/
theorem wpList_store_part (hgd : o.guard = none) (ty : TypeId) (x y : Operand) (ho : o.op = .store ty x y) (g off : Nat) (hx : a.eval x = .pointer (some ⟨g, off, none⟩)) {T : TypeId} {l : List Value} (hB : B w g T l)
    (part : List Value) (hy : a.eval y = .agg part.toArray) (hfit : off + part.length ≤ l.length) (h1 : ∀ v ∈ part, v.oneCell' = true) (hi : (P.info? ty).map (·.size) = some part.length)
    (h : ∀ w', B w' g T (l.take off ++ part ++ l.drop (off + part.length)) → Only g w w' → wpList P ops Q rest (a.put o.dst undef) w') : wpList P ops Q (o :: rest) a w := by
  refine wpList_plain hgd fun K hK => ?_
  unfold Oper.wp execOp
  simp only [ho, hx, hy, Instr.storeAt, Instr.sureAddr, Sem.run_bind, Sem.run_pure, Result.andThen_ok, run_storeVar_part ty g off hB part hfit h1 hi]
  exact hK _ _ (h _ (setRow_heap w g _ _ T _ hB) (Only.setRow g _ w))

/-- A whole block written anew by a store of many cells. -/
theorem B.setCells_all (P : Program) {w : World} {g : Nat} {T : TypeId} {l : List Value} (hB : B w g T l) (part : List Value) (hfit : part.length = l.length) (h1 : ∀ v ∈ part, v.oneCell' = true) :
    B (w.setCells g 0 part) g T part ∧ Only g w (w.setCells g 0 part) := by
  have e1 := run_storeCells_cells (P := P) g 0 part 0 w (fun j hj => by rw [hB.cell, Nat.add_zero, Nat.zero_add, List.getElem?_eq_getElem (by omega)]; rfl) (fun j hj => hB.frozen _) h1
  have e2 := run_storeCells_at P g 0 T part 0 l.toArray w hB (by simp; omega) h1
  rw [e1] at e2
  simp only [Nat.add_zero, Nat.zero_add, List.take_zero, List.nil_append] at e2
  rw [List.drop_of_length_le (by omega), List.append_nil] at e2
  injection e2 with _ e2
  rw [e2]
  exact ⟨setRow_heap w g _ _ T _ hB, Only.setRow g _ w⟩

/-- A whole block written anew. -/
theorem wpList_store_all (hgd : o.guard = none) (ty : TypeId) (x y : Operand) (ho : o.op = .store ty x y) (g : Nat) (hx : a.eval x = .pointer (some ⟨g, 0, none⟩)) {T : TypeId} {l : List Value} (hB : B w g T l)
    (part : List Value) (hy : a.eval y = .agg part.toArray) (hfit : part.length = l.length) (h1 : ∀ v ∈ part, v.oneCell' = true) (hi : (P.info? ty).map (·.size) = some part.length)
    (h : ∀ w', B w' g T part → Only g w w' → wpList P ops Q rest (a.put o.dst undef) w') : wpList P ops Q (o :: rest) a w :=
  wpList_store_part hgd ty x y ho g 0 hx hB part hy (by omega) h1 hi fun w' hB' hO' => h w' (by
    have e : l.take 0 ++ part ++ l.drop (0 + part.length) = part := by
      rw [List.take_zero, List.nil_append, Nat.zero_add, List.drop_of_length_le (by omega), List.append_nil]
    rwa [e] at hB') hO'

/-- A whole block read. -/
theorem wpList_load_all (hgd : o.guard = none) (ty : TypeId) (x : Operand) (ho : o.op = .load ty x) (g : Nat) (hx : a.eval x = .pointer (some ⟨g, 0, none⟩)) {T : TypeId} {l : List Value} (hB : B w g T l)
    {d : TypeDesc} (hu : P.underlying ty = some d) (hd : d.isRow = true) (hi : (P.info? ty).map (·.size) = some l.length)
    (h : wpList P ops Q rest (a.put o.dst (.agg l.toArray)) w) : wpList P ops Q (o :: rest) a w :=
  wpList_load_part hgd ty x ho g 0 hx hB l (by rw [List.drop_zero]; exact List.take_length) hu hd hi h

/-- One cell written. -/
theorem wpList_store_one (hgd : o.guard = none) (ty : TypeId) (x y : Operand) (ho : o.op = .store ty x y) (g j : Nat) (hx : a.eval x = .pointer (some ⟨g, j, none⟩)) {T : TypeId} {l : List Value} (hB : B w g T l)
    (v : Value) (hy : a.eval y = v) (hj : j < l.length) (h1 : v.oneCell' = true) (hi : (P.info? ty).map (·.size) = some 1)
    (h : ∀ w', B w' g T (l.set j v) → Only g w w' → wpList P ops Q rest (a.put o.dst undef) w') : wpList P ops Q (o :: rest) a w := by
  refine wpList_plain hgd fun K hK => ?_
  unfold Oper.wp execOp
  have hcells : v.cells = #[v] := by cases v <;> first | rfl | simp [Value.oneCell'] at h1
  have hcell : w.cell? ⟨g, j, none⟩ = some l[j] := by rw [hB.cell, List.getElem?_eq_getElem hj]
  have hrun : (storeVar ty ⟨g, j, none⟩ v).run P w = .ok () (w.setCell ⟨g, j, none⟩ v) := by
    cases hq : P.info? ty with
    | none => simp [hq] at hi
    | some i =>
      have hsz : i.size = 1 := by simpa [hq] using hi
      have hst : (store (⟨g, j, none⟩ : Addr) v .plain).run P w = .ok () (w.setCell ⟨g, j, none⟩ v) := by
        rw [run_store P w _ v _ h1, hcell]; simp [hB.frozen]
      simp [storeVar, sizeOf, typeInfo, hq, hcells, hsz, storeCells, Addr.add_zero', hst]
  simp only [ho, hx, hy, Instr.storeAt, Instr.sureAddr, Sem.run_bind, Sem.run_pure, Result.andThen_ok, hrun]
  exact hK _ _ (h _ (hB.set_ j v) (Only.setCell g j v w))

/-- One cell read. -/
theorem wpList_load_one (hgd : o.guard = none) (ty : TypeId) (x : Operand) (ho : o.op = .load ty x) (g j : Nat) (hx : a.eval x = .pointer (some ⟨g, j, none⟩)) {T : TypeId} {l : List Value} (hB : B w g T l)
    (v : Value) (hv : l[j]? = some v) {d : TypeDesc} (hu : P.underlying ty = some d) (hd : d.isRow = false)
    (h : wpList P ops Q rest (a.put o.dst v) w) : wpList P ops Q (o :: rest) a w := by
  refine wpList_plain hgd fun K hK => ?_
  unfold Oper.wp execOp
  have hcell : w.cell? ⟨g, j, none⟩ = some v := by rw [hB.cell, hv]
  have hrun : (loadVar ty ⟨g, j, none⟩).run P w = .ok v w := by
    have hagg : (isAgg ty).run P w = .ok false w := by
      unfold isAgg
      rw [Sem.run_bind, run_underlying hu w]
      cases d <;> simp_all
    simp [loadVar, hagg, run_load, hcell]
  simp only [ho, hx, Instr.loadAt, Instr.sureAddr, Sem.run_bind, Sem.run_pure, Result.andThen_ok, hrun]
  exact hK _ _ h

/-- A result that lies in a block of its own. -/
theorem results_block {fn : Func} {p : Tmp} {ty : TypeId} (h : fn.results = #[.cell p ty]) (tmps : Array Value) (w : World) (g : Nat) (t : TypeId) (l : List Value) (d : TypeDesc)
    (hp : tmps.getD p undef = .pointer (some ⟨g, 0, none⟩)) (hg : B w g t l)
    (hu : P.underlying ty = some d) (hd : d.isRow = true) (hi : (P.info? ty).map (·.size) = some l.length) :
    (results fn tmps).run P w = .ok (.agg l.toArray) w := by
  refine results_cell_row h tmps w g t l.toArray (0, 0) d hp hg hu ?_ (by simpa using hi)
  cases d <;> simp_all
/-- Two results, the first in a block of its own. -/
theorem results_block_tmp {fn : Func} {p q : Tmp} {ty : TypeId} (h : fn.results = #[.cell p ty, .tmp q]) (tmps : Array Value) (w : World) (g : Nat) (t : TypeId) (l : List Value) (d : TypeDesc)
    (hp : tmps.getD p undef = .pointer (some ⟨g, 0, none⟩)) (hg : B w g t l)
    (hu : P.underlying ty = some d) (hd : d.isRow = true) (hi : (P.info? ty).map (·.size) = some l.length) :
    (results fn tmps).run P w = .ok (.tuple #[.agg l.toArray, tmps.getD q undef]) w := by
  have hp' : tmps[p]?.getD undef = .pointer (some ⟨g, 0, none⟩) := by simpa using hp
  have hl := run_loadVar_row (P := P) w g t ty l.toArray (0, 0) d hg hu (by cases d <;> simp_all) (by simpa using hi)
  simp [results, h, hp', asAddr, hl]
end

end Go.Proofs.Ytjhpffenlhfilaa.Mem
