/- The walks of the package's Reset and ZZState, and of the thin package's Cleared. -/
import Derived.Test.YtcmokpacocgolaaWNew
import Derived.Test.YtcmokpacocgolaaWClone
import Derived.Lib.SliceRun
import Derived.Deep.RegionHeld3
namespace Go.Proofs.Ytcmokpacocgolaa.Rc
open Go.RowKit Mem

section
variable {P : Program} {ops : Array Oper} {rest : List Oper} {o : Oper} {a : Act} {w : World} {Q : Exit → Act → World → Prop}

/-- A block's first cells written anew by a store of many cells. -/
theorem B_setCells_first (P : Program) {w : World} {g : Nat} {T : TypeId} {l : List Value} (hB : B w g T l) (part : List Value) (hfit : part.length ≤ l.length) (h1 : ∀ v ∈ part, v.oneCell' = true) :
    B (w.setCells g 0 part) g T (part ++ l.drop part.length) ∧ Only g w (w.setCells g 0 part) := by
  have e1 := run_storeCells_cells (P := P) g 0 part 0 w (fun j hj => by rw [hB.cell, Nat.add_zero, Nat.zero_add, List.getElem?_eq_getElem (by omega)]; rfl) (fun j hj => hB.frozen _) h1
  have e2 := run_storeCells_at P g 0 T part 0 l.toArray w hB (by simp; omega) h1
  rw [e1] at e2
  simp only [Nat.add_zero, Nat.zero_add, List.take_zero, List.nil_append] at e2
  injection e2 with _ e2
  rw [e2]
  exact ⟨setRow_heap w g _ _ T _ hB, Only.setRow g _ w⟩

/-- clear(s), s the first n cells of a block. -/
theorem wpList_clear_B (hgd : o.guard = none) (s : Operand) (t : TypeId) (ho : o.op = .call { callee := .builtin .clear, args := #[s], argTypes := #[t] }) (e : TypeId) (z : Value)
    (ht : P.underlying t = some (.slice e)) (hv : ∀ w, (zeroValue e).run P w = .ok z w) (hz : z.cells = #[z]) (h1 : z.oneCell' = true) (g n c : Nat) (hn : 0 < n) {T : TypeId} {l : List Value} (hB : B w g T l) (hnl : n ≤ l.length)
    (hs : a.eval s = .slice (some ⟨g, 0, none⟩) n c)
    (h : ∀ w', B w' g T (List.replicate n z ++ l.drop n) → Only g w w' → wpList P ops Q rest (a.put o.dst (.tuple #[])) w') : wpList P ops Q (o :: rest) a w := by
  refine wpList_plain hgd fun K hK => ?_
  have hrun := Lib.run_clear_slice (P := P) w t e o.type z ht hv hz h1 g 0 n c hn (fun j hj => by rw [Nat.zero_add, hB.cell, List.getElem?_eq_getElem (by omega)]; rfl) (fun j hj => hB.frozen _)
  obtain ⟨b1, o1⟩ := B_setCells_first P hB (List.replicate n z) (by simpa using hnl) (fun v hv => by rw [List.eq_of_mem_replicate hv]; exact h1)
  rw [List.length_replicate] at b1
  unfold Oper.wp execOp
  simp only [ho, resolve, invoke, builtin, Sem.run_bind, Sem.run_pure, Result.andThen_ok, List.map_toArray, List.map_cons, List.map_nil, hs, hrun]
  exact hK _ _ (h _ b1 o1)

/-- Three results, the first in a block of its own. -/
theorem results_block_tmps2 {fn : Func} {p q r : Tmp} {ty : TypeId} (h : fn.results = #[.cell p ty, .tmp q, .tmp r]) (tmps : Array Value) (w : World) (g : Nat) (t : TypeId) (l : List Value) (d : TypeDesc)
    (hp : tmps.getD p undef = .pointer (some ⟨g, 0, none⟩)) (hg : B w g t l)
    (hu : P.underlying ty = some d) (hd : d.isRow = true) (hi : (P.info? ty).map (·.size) = some l.length) :
    (results fn tmps).run P w = .ok (.tuple #[.agg l.toArray, tmps.getD q undef, tmps.getD r undef]) w := by
  have hp' : tmps[p]?.getD undef = .pointer (some ⟨g, 0, none⟩) := by simpa using hp
  have hl := run_loadVar_row (P := P) w g t ty l.toArray (0, 0) d hg hu (by cases d <;> simp_all) (by simpa using hi)
  simp [results, h, hp', asAddr, hl]
/-- Four results, the first in a block of its own. -/
theorem results_block_tmps3 {fn : Func} {p q r s : Tmp} {ty : TypeId} (h : fn.results = #[.cell p ty, .tmp q, .tmp r, .tmp s]) (tmps : Array Value) (w : World) (g : Nat) (t : TypeId) (l : List Value) (d : TypeDesc)
    (hp : tmps.getD p undef = .pointer (some ⟨g, 0, none⟩)) (hg : B w g t l)
    (hu : P.underlying ty = some d) (hd : d.isRow = true) (hi : (P.info? ty).map (·.size) = some l.length) :
    (results fn tmps).run P w = .ok (.tuple #[.agg l.toArray, tmps.getD q undef, tmps.getD r undef, tmps.getD s undef]) w := by
  have hp' : tmps[p]?.getD undef = .pointer (some ⟨g, 0, none⟩) := by simpa using hp
  have hl := run_loadVar_row (P := P) w g t ty l.toArray (0, 0) d hg hu (by cases d <;> simp_all) (by simpa using hi)
  simp [results, h, hp', asAddr, hl]
end

theorem zv23 (w : World) : (zeroValue 23).run Try.prog w = .ok (.int .u32 0) w := by kernel_rfl

theorem cip_cleared (c : C) (h : c.S.length = 256) : ((List.replicate 256 (Value.int .u32 0) ++ (cip c).drop 256).set 256 (.int .u8 0)).set 257 (.int .u8 0) = cip C0 := by
  have e1 : (cip c).drop 256 = [.int .u8 (c.i : Int), .int .u8 (c.j : Int)] := by
    unfold cip
    rw [List.drop_append_of_le_length (by rw [u32s_length, h]; omega), List.drop_of_length_le (by rw [u32s_length, h]; omega), List.nil_append]
  have e2 : List.replicate 256 (Value.int .u32 0) = u32s zeros := by unfold zeros u32s; rw [List.map_replicate]; rfl
  rw [e1, e2]
  exact cip_setIJ C0 c.i c.j zeros_length

set_option maxRecDepth 100000 in
set_option maxHeartbeats 400000 in
theorem reset_any (c : C) (hc : c.S.length = 256) (gc : Nat) (w : World) (hC : B w gc 59 (cip c)) :
    Calls Try.prog 27 #[.pointer (some ⟨gc, 0, none⟩)] w fun e w' =>
      e = .returned (.tuple #[]) ∧ B w' gc 59 (cip C0) ∧ Only gc w w' := by
  have hlen := cip_length c hc
  have HL := Lib.hid hlen
  clear hlen
  go_enter Try.func27, Try.ntmps27
  go_wp2_with (first
    | (refine wpList_clear_B rfl (.tmp 5) _ rfl 23 (.int .u32 0) Try.underlying60 zv23 rfl rfl gc 256 256 (by omega) hC (by rw [HL.out]; omega) rfl ?_; intro w1 hC1 hO1)
    | (refine wpList_store_one rfl 5 _ _ rfl gc 256 rfl hC1 _ rfl (by rw [List.length_append, List.length_replicate, List.length_drop, HL.out]; omega) rfl (by kernel_rfl) ?_; intro w2 hC2 hO2; (try go_frame))
    | (refine wpList_store_one rfl 5 _ _ rfl gc 257 rfl hC2 _ rfl (by rw [List.length_set, List.length_append, List.length_replicate, List.length_drop, HL.out]; omega) rfl (by kernel_rfl) ?_; intro w3 hC3 hO3; (try go_frame)))
  first | go_end0 | refine bodyPost_ret (results_none rfl _ _ _) rfl ?_
  refine ⟨rfl, ?_, (hO1.trans hO2).trans hO3⟩
  rw [← cip_cleared c hc]
  exact hC3

/-- A permutation read, written: kept closed to the walk's rewriting. -/
def loadRow (p : Value) : Sem Value := Instr.loadAt 24 p
def storeRow (p v : Value) : Sem Unit := Instr.storeAt 24 p v
theorem loadRow_eq (p : Value) : Instr.loadAt 24 p = loadRow p := rfl
theorem storeRow_eq (p v : Value) : Instr.storeAt 24 p v = storeRow p v := rfl

attribute [local go_sem ↓] loadRow_eq storeRow_eq

set_option maxRecDepth 100000 in
set_option maxHeartbeats 400000 in
theorem parts_any (c : C) (hc : Ok c) (gc : Nat) (w : World) (hC : B w gc 59 (cip c)) :
    Calls Try.prog 28 #[.pointer (some ⟨gc, 0, none⟩)] w fun e w' =>
      e = .returned (.tuple #[.agg (u32s c.S).toArray, .int .u8 (c.i : Int), .int .u8 (c.j : Int)]) ∧ Below w.heap.size w w' := by
  obtain ⟨ti, hti, hz, hsz⟩ := row24
  have hlen := hc.len
  have HL := Lib.hid hlen
  clear hlen
  go_enter Try.func28, Try.ntmps28
  go_wp2_with (refine wpList_alloc rfl 24 rfl ti _ (u32s zeros) hti hz rfl ?_; intro g2 w2 hg2 hlt2 hB2 hb2; (try go_frame); have hC2 := hC.call hb2; have hne : gc ≠ g2 := (by have := hC.lt; omega); have k1 : w2.cell? ⟨gc, 256, none⟩ = some (.int .u8 (c.i : Int)) := (by rw [hC2.cell, cip_getI c HL.out]); have k2 : w2.cell? ⟨gc, 257, none⟩ = some (.int .u8 (c.j : Int)) := (by rw [hC2.cell, cip_getJ c HL.out]))
  have h1 := u32s_one c.S
  have hi : (Try.prog.info? 24).map (·.size) = some (u32s c.S).length := by rw [size24, u32s_length, HL.out]
  have hL : (u32s c.S).length = 256 := by rw [u32s_length, HL.out]
  obtain ⟨e8, hO8⟩ := hB2.drew.setCells_all Try.prog (u32s c.S) (by rw [hL, u32s_length, zeros_length]) h1
  have e9 := hC2.drew.only hO8 hne
  have hp : ((cip c).drop 0).take (u32s c.S).length = u32s c.S := by unfold cip; rw [List.drop_zero, List.take_left']; rfl
  have E1 : (loadRow (.pointer (some ⟨gc, 0, none⟩))).run Try.prog w2.drew = .ok (.agg (u32s c.S).toArray) w2.drew :=
    run_loadAt_mid w2.drew gc 0 _ _ _ (hC2.drew.rangeAt 0 _ hp) Try.underlying24 rfl hi
  have E2 : (loadRow (.pointer (some ⟨gc, 0, none⟩))).run Try.prog (w2.drew.setCells g2 0 (u32s c.S)) = .ok (.agg (u32s c.S).toArray) (w2.drew.setCells g2 0 (u32s c.S)) :=
    run_loadAt_mid _ gc 0 _ _ _ (e9.rangeAt 0 _ hp) Try.underlying24 rfl hi
  have E3 : (storeRow (.pointer (some ⟨g2, 0, none⟩)) (.agg (u32s c.S).toArray)).run Try.prog w2.drew = .ok () (w2.drew.setCells g2 0 (u32s c.S)) := by
    have h := run_storeAt_mid (P := Try.prog) w2.drew g2 0 24 (u32s c.S).toArray (fun j hj => ⟨by rw [Nat.zero_add, World.cell?_drew, hB2.cell, List.getElem?_eq_getElem (by rw [u32s_length, zeros_length]; rw [List.size_toArray, hL] at hj; exact hj)]; rfl, hB2.frozen _⟩) (by rw [hi, List.size_toArray]) (all_oneCell_toArray h1)
    rw [List.toList_toArray] at h
    exact h
  have m1 := (e9.cell 256).trans ((hC2.cell 256).symm.trans k1)
  have m2 := (e9.cell 257).trans ((hC2.cell 257).symm.trans k2)
  generalize hgL : u32s c.S = L at h1 hi hL e8 E1 E2 E3 m1 m2 hO8 e9
  have HGL := Lib.hid hgL
  have Hi := Lib.hid hi
  clear hgL hi hL hp
  generalize w2.drew.setCells g2 0 L = w7 at e8 E2 E3 m1 m2 hO8 e9
  go_region
  go_wp2
  have h24 := Try.underlying24
  refine bodyPost_ret (results_block_tmps2 rfl _ w7 g2 24 L _ rfl e8 h24 rfl Hi.out) rfl ⟨?_, ?_⟩
  · rw [HGL.out]; rfl
  · exact (hb2.drew).trans (hO8.below _ hg2)
end Go.Proofs.Ytcmokpacocgolaa.Rc
