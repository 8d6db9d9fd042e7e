/- The walk of the law on a state that is seeded with bytes. -/
import Derived.Test.YtjhpffenlhfilaaWInit
import Derived.Test.YtjhpffenlhfilaaFacts
import Derived.Test.YtjhpffenlhfilaaLInit64
namespace Go.Proofs.Ytjhpffenlhfilaa
open Go.RowKit Ch Mem

theorem bytes_of {l : List Int} (h : ∀ x ∈ l, (Lit.int .u8 x).wf = true) : ∃ bs : List Y, bs.length = l.length ∧ Eq.ints .u8 l = (b8s bs).toArray := by
  have one : ∀ x ∈ l, ∃ s : Y, x = n8 s := fun x hx => by
    have hw := h x hx
    simp [Lit.wf, IntKind.min, IntKind.max, IntKind.signed, IntKind.bits] at hw
    refine ⟨BitVec.ofNat 8 x.toNat, ?_⟩
    unfold n8
    rw [BitVec.toNat_ofNat]
    omega
  have all : ∀ m : List Int, (∀ x ∈ m, ∃ s : Y, x = n8 s) → ∃ bs : List Y, bs.length = m.length ∧ m = bs.map n8 := by
    intro m
    induction m with
    | nil => exact fun _ => ⟨[], rfl, rfl⟩
    | cons x r ih =>
      intro hm
      obtain ⟨s, hs⟩ := hm x (by simp)
      obtain ⟨bs, h1, h2⟩ := ih fun y hy => hm y (by simp [hy])
      exact ⟨s :: bs, by simp [h1], by rw [hs, h2]; rfl⟩
  obtain ⟨bs, h1, h2⟩ := all l one
  refine ⟨bs, h1, ?_⟩
  rw [h2]
  unfold Eq.ints b8s
  rw [List.map_map]
  rfl
theorem eql30 (t0 t1 t2 t3 : V) (w : World) : (binOp .eql 30 (.agg (u64s [t0, t1, t2, t3]).toArray) (.agg (u64s [t0, t1, t2, t3]).toArray)).run Try.prog w = .ok (.bool true) w := by
  obtain ⟨tj, htj, hsj⟩ := size_u64
  have := Eq.run_eql_ints Try.underlying30 Try.underlying29 htj hsj ([t0, t1, t2, t3].map n64) ([t0, t1, t2, t3].map n64) rfl rfl w
  rw [beq_self_eq_true, ← ints_u64s] at this
  exact this
theorem yieldsIf_load_wanted' {P : Program} {ops : Array Oper} {S : World → Prop} {o : Oper} {a : Act} (hwt : Region.wanted o (yielded ops a.tmps) = true) (ty : TypeId) (x : Operand) (ho : o.op = .load ty x) (g off : Nat) (hx : a.eval x = .pointer (some ⟨g, off, none⟩)) {T : TypeId} {l : List Value} (hS : ∀ w, S w → B w g T l)
    (part : List Value) (hp : (l.drop off).take part.length = part) {d : TypeDesc} (hu : P.underlying ty = some d) (hd : d.isRow = true) (hi : (P.info? ty).map (·.size) = some part.length) :
    YieldsIf P ops S o (.agg part.toArray) a :=
  .inl ⟨hwt, fun w hw => by
    have e := run_loadAt_mid (P := P) w g off _ _ _ ((hS w hw).rangeAt off part hp) hu hd hi
    unfold execOp
    simp only [ho, hx, Sem.run_bind, e, Result.andThen_ok, Sem.run_pure]⟩

def phiIN (gs : Nat) (S R D : List Value) : Nat → Fa
  | 0 => .val (.agg S.toArray)
  | 1 => .val (.agg R.toArray)
  | 2 => .val (.agg S.toArray)
  | 3 => .val (.agg D.toArray)
  | 4 => .val (.agg R.toArray)
  | 5 => .blk gs 35 Z39
  | 6 => .blk gs 35 Z39
  | _ => .nil

set_option maxRecDepth 100000 in
set_option maxHeartbeats 4000000 in
theorem walk_FnExactInit (hbl : BlockC) (l0 : List Int) (hl0 : l0.length = 32) (w0 : ∀ x ∈ l0, (Lit.int .u8 x).wf = true) (W : World) :
    Calls Try.prog 14 #[.agg (Eq.ints .u8 l0)] W fun e w' => e = .returned (.bool true) ∧ Below W.heap.size W w' := by
  obtain ⟨bs, hl, hs⟩ := bytes_of w0
  rw [hs]
  rw [hl0] at hl
  obtain ⟨tk, htk, hx, _⟩ := row_of zero35
  have h57 := Try.underlying57
  have h30 := Try.underlying30
  have h35 := Try.underlying35
  have ca := Lib.hid (fun w => implInit_any hbl bs hl w)
  have cw := Lib.hid (fun w => words_any bs hl w)
  generalize word bs 0 = t0 at ca cw
  generalize word bs 8 = t1 at ca cw
  generalize word bs 16 = t2 at ca cw
  generalize word bs 24 = t3 at ca cw
  have cb := Lib.hid (fun w => implInit64_any hbl t0 t1 t2 t3 w)
  have eqs := Lib.hid (fun w => eql35 (seeded t0 t1 t2 t3) w)
  have eqs4 := Lib.hid (fun w => eql30 t0 t1 t2 t3 w)
  have hseed : ((seeded t0 t1 t2 t3).parts.drop 0).take (u64s [t0, t1, t2, t3]).length = u64s [t0, t1, t2, t3] := rfl
  have hmany : (seeded t0 t1 t2 t3).parts[37]? = some (.int .i64 32) := by
    show (pt _ _ _ _ _ _ _ _)[37]? = _
    unfold pt
    rw [List.getElem?_append_right (by simp), List.getElem?_append_right (by rw [G.bufs_length]; simp), G.bufs_length]
    rfl
  have iR : (Try.prog.info? 35).map (·.size) = some (seeded t0 t1 t2 t3).parts.length := by rw [size35, G.parts_length]
  have lR : (seeded t0 t1 t2 t3).parts.length = Z39.length := by rw [G.parts_length, Z39_length]
  have oR := parts_one (seeded t0 t1 t2 t3)
  generalize (seeded t0 t1 t2 t3).parts = R at ca cb eqs hseed hmany iR lR oR
  have hDi : (Try.prog.info? 30).map (·.size) = some (u64s [t0, t1, t2, t3]).length := by kernel_rfl
  have hSi : (Try.prog.info? 57).map (·.size) = some (b8s bs).length := by rw [b8s_length, hl]; kernel_rfl
  have HSEED := Lib.hid hseed
  have HMANY := Lib.hid hmany
  have IR := Lib.hid iR
  have LR := Lib.hid lR
  have HSI := Lib.hid hSi
  generalize u64s [t0, t1, t2, t3] = D at cw cb eqs4 HSEED hDi
  have HDI := Lib.hid hDi
  clear hl0 w0 hs hl hseed hmany iR lR hDi hSi
  generalize b8s bs = S at ca cw HSI
  go_enter Try.func14, Try.ntmps14
  go_wp2_with (refine wpList_box rfl 57 _ rfl _ S rfl rfl ?_; intro gs wS hgs hltS hS hbS; (try go_frame))
  have eS : Below W.heap.size W wS.drew := below_drewN hbS 1
  refine wp_region_facts_tail 7
    (fun i v w => (phiIN gs S R D i).ok v w)
    (Two W gs 57 S 3 4)
    (fun j => match j with | 1 => [0] | 3 => [2] | 4 => [3] | _ => []) (fun _ => []) (by kernel_rfl) (by kernel_rfl) ⟨hS.drew, eS, (fun g h => by cases h), (fun g h => by cases h), fun g g' h => by cases h⟩ ?_ ?_
  · intro j hj
    match j, hj with
    | 0, _ | 2, _ =>
      intro o ho a w K hd ht hr hC hp hK
      obtain rfl := Option.some.inj ho
      refine step_load_whole rfl _ _ rfl gs ((eval_tmp a 1).trans (hr 1 (by kernel_rfl))) hC.seed h57 rfl HSI.out ?_
      exact hK _ _ (fun h => by cases h) (hC.put (Below.refl _ _) _ (by decide) (by decide)) rfl fun p _ _ _ _ _ h => h
    | 1, _ =>
      intro o ho a w K hd ht hr hC hp hK
      obtain rfl := Option.some.inj ho
      have p0 := hp 0 (by decide) _ rfl
      refine step_func rfl _ _ Try.func35 (by kernel_rfl) (by kernel_rfl) _ _ rfl [.agg S.toArray] (by
        show [a.eval (.tmp 5)] = _
        rw [eval_tmp]
        exact congrArg (fun x => [x]) p0) ((ca.out w).mono ?_)
      rintro e w' ⟨rfl, hb⟩
      exact ⟨_, rfl, hK _ _ (fun h => by cases h) (hC.put hb _ (by decide) (by decide)) rfl fun p _ _ _ _ _ h => Fa.keep hb h⟩
    | 3, _ =>
      intro o ho a w K hd ht hr hC hp hK
      obtain rfl := Option.some.inj ho
      have p0 := hp 2 (by decide) _ rfl
      refine step_func rfl _ _ Try.func36 (by kernel_rfl) (by kernel_rfl) _ _ rfl [.agg S.toArray] (by
        show [a.eval (.tmp 7)] = _
        rw [eval_tmp]
        exact congrArg (fun x => [x]) p0) ((cw.out w).mono ?_)
      rintro e w' ⟨rfl, hb⟩
      exact ⟨_, rfl, hK _ _ (fun h => by cases h) (hC.put hb _ (by decide) (by decide)) rfl fun p _ _ _ _ _ h => Fa.keep hb h⟩
    | 4, _ =>
      intro o ho a w K hd ht hr hC hp hK
      obtain rfl := Option.some.inj ho
      have p0 := hp 3 (by decide) _ rfl
      refine step_func rfl _ _ Try.func29 (by kernel_rfl) (by kernel_rfl) _ _ rfl [.agg D.toArray] (by
        show [a.eval (.tmp 8)] = _
        rw [eval_tmp]
        exact congrArg (fun x => [x]) p0) ((cb.out w).mono ?_)
      rintro e w' ⟨rfl, hb⟩
      exact ⟨_, rfl, hK _ _ (fun h => by cases h) (hC.put hb _ (by decide) (by decide)) rfl fun p _ _ _ _ _ h => Fa.keep hb h⟩
    | 5, _ =>
      intro o ho a w K hd ht hr hC hp hK
      obtain rfl := Option.some.inj ho
      refine step_alloc rfl _ rfl tk _ Z39 htk hx rfl fun g w' h1 h2 h3 hb => ?_
      exact hK _ _ (fun h => by cases h) (hC.put1 hb g h1 h2 (by decide) (by rw [ht]; exact Nat.le_of_ble_eq_true rfl)) ⟨g, rfl, Nat.lt_of_lt_of_le hC.seed.lt h1, h3⟩ fun p _ _ _ _ _ h => Fa.keep hb h
    | 6, _ =>
      intro o ho a w K hd ht hr hC hp hK
      obtain rfl := Option.some.inj ho
      refine step_alloc rfl _ rfl tk _ Z39 htk hx rfl fun g w' h1 h2 h3 hb => ?_
      exact hK _ _ (fun h => by cases h) (hC.put2 hb g h1 h2 (by decide) (by rw [ht]; exact Nat.le_of_ble_eq_true rfl)) ⟨g, rfl, Nat.lt_of_lt_of_le hC.seed.lt h1, h3⟩ fun p _ _ _ _ _ h => Fa.keep hb h
  · intro a w hd ht hr hC hf
    obtain ⟨g3, f5, l3, B3⟩ := hf 5 _ (by decide) rfl (fun k _ h => by cases h)
    obtain ⟨g4, f6, l4, B4⟩ := hf 6 _ (by decide) rfl (fun k _ h => by cases h)
    have f0 := hf 0 _ (by decide) rfl (fun k _ h => by cases h)
    have f1 := hf 1 _ (by decide) rfl (fun k _ h => by cases h)
    have f2 := hf 2 _ (by decide) rfl (fun k _ h => by cases h)
    have f3 := hf 3 _ (by decide) rfl (fun k _ h => by cases h)
    have f4 := hf 4 _ (by decide) rfl (fun k _ h => by cases h)
    have hne := hC.apart g3 g4 f5 f6
    have hS' := hC.seed
    have hb' := hC.below
    obtain rfl := frame_of [(5, _), (6, _), (7, _), (8, _), (9, _), (3, _), (4, _)] 25 rfl (by kernel_rfl) hd ht hr (by
      intro p hp
      simp only [List.mem_cons, List.not_mem_nil, or_false] at hp
      rcases hp with rfl | rfl | rfl | rfl | rfl | rfl | rfl
      · exact f0
      · exact f1
      · exact f2
      · exact f3
      · exact f4
      · exact f5
      · exact f6)
    clear hd ht hr hC hf f0 f1 f2 f3 f4 f5 f6
    simp only [putL, Act.put, List.setIfInBounds_toArray, List.set_cons_zero, List.set_cons_succ, List.drop_succ_cons, List.drop_zero]
    refine wpList_store_all rfl 35 _ _ rfl g3 rfl B3 R rfl LR.out oR IR.out ?_
    intro w5 A3 o5
    have B4' := B4.only o5 (Ne.symm hne)
    refine wpList_store_all rfl 35 _ _ rfl g4 rfl B4' R rfl LR.out oR IR.out ?_
    intro w6 A4 o6
    have A3' := A3.only o6 hne
    have b6 : Below W.heap.size W w6 := (hb'.trans (o5.below _ (by omega))).trans (o6.below _ (by omega))
    have S6 := (hS'.only o5 (by omega)).only o6 (by omega)
    clear B3 B4 B4' A3 o5 o6 hS' hb' ca cb hS hbS eS oR
    have ez := eqs.out
    have ez4 := eqs4.out
    go_wp2_with fail
    refine wp_region_pick (fun w => B w g3 35 R ∧ B w g4 35 R ∧ B w gs 57 S) [0, 1, 2, 3, 4, 5, 6] [7, 8, 9, 10, 11, 12, 13, 14, 15] (by kernel_rfl) (by kernel_rfl) (fun _ _ d _ _ h => by cases d <;> exact h) ⟨A3'.drew, A4.drew, S6.drew⟩ ?_
    simp only [pick, List.drop_succ_cons, List.drop_zero]
    refine ⟨_, yieldsIf_load_part rfl 35 _ rfl g3 0 rfl (fun w h => h.1) R (by rw [List.drop_zero]; exact List.take_length) h35 rfl IR.out, ?_⟩
    simp only [Act.put, List.setIfInBounds_toArray, List.set_cons_zero, List.set_cons_succ]
    refine ⟨_, yieldsIf_load_part rfl 35 _ rfl g4 0 rfl (fun w h => h.2.1) R (by rw [List.drop_zero]; exact List.take_length) h35 rfl IR.out, ?_⟩
    simp only [Act.put, List.setIfInBounds_toArray, List.set_cons_zero, List.set_cons_succ]
    iterate 3
      refine ⟨?_, Or.inl ⟨by rfl, ?_⟩, ?_⟩
      rotate_left
      · intro w hw; go_simp; try with_reducible rfl
      simp only [Act.put, List.setIfInBounds_toArray, List.set_cons_zero, List.set_cons_succ]
    refine ⟨_, yieldsIf_load_wanted' (by rfl) 30 _ rfl g3 0 rfl (fun w h => h.1) D HSEED.out h30 rfl HDI.out, ?_⟩
    simp only [Act.put, List.setIfInBounds_toArray, List.set_cons_zero, List.set_cons_succ]
    refine ⟨_, yieldsIf_load_wanted' (by rfl) 57 _ rfl gs 0 rfl (fun w h => h.2.2) S (by rw [List.drop_zero]; exact List.take_length) h57 rfl HSI.out, ?_⟩
    simp only [Act.put, List.setIfInBounds_toArray, List.set_cons_zero, List.set_cons_succ]
    refine wpFirst_nil ?_
    have A1 := A3'.drew
    have B1 := A4.drew
    have S1 := S6.drew
    have e1 : Below W.heap.size W w6.drew := below_drewN b6 1
    generalize w6.drew = v1 at A1 B1 S1 e1 ⊢
    refine wpThen_step (fun K hK => ?_)
    go_simp
    refine (cw.out _).mono ?_
    rintro e v2 ⟨rfl, hb2⟩
    have A2 := A1.call hb2
    have B2 := B1.call hb2
    have S2 := S1.call hb2
    have e2 := below_call e1 e1.size hb2
    have q : v2.cell? ⟨g3, 37, none⟩ = some (.int .i64 32) := (A2.cell _).trans HMANY.out
    go_simp
    refine hK _ _ ⟨A2, B2, S2⟩ ?_
    clear hK K
    iterate 8
      refine wpThen_step (fun K hK => ?_)
      go_simp
      refine hK _ _ ⟨A2, B2, S2⟩ ?_
      clear hK K
    refine wpThen_nil ?_
    go_wp2
    go_ret
    exact ⟨rfl, e2⟩
end Go.Proofs.Ytjhpffenlhfilaa
