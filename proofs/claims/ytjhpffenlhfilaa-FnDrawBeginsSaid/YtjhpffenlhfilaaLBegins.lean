/- The walk of the law on the beginnings of what is drawn. -/
import Derived.Test.YtjhpffenlhfilaaWDraw
import Derived.Test.YtjhpffenlhfilaaLSetup
import Derived.Test.YtjhpffenlhfilaaPick
import Derived.BigQuiet
import Derived.Deep.QuietTactic
namespace Go.Proofs.Ytjhpffenlhfilaa
open Go.RowKit Ch Mem

theorem Ch.size_of' {T : TypeId} {n : Nat} (h : (Try.prog.info? T).map (·.size) = some n) : ∃ ti, Try.prog.info? T = some ti ∧ ti.size = n := by
  cases hq : Try.prog.info? T with
  | none => rw [hq] at h; cases h
  | some ti => rw [hq] at h; injection h with h; exact ⟨ti, rfl, h⟩
theorem yieldsIf_load_wanted {P : Program} {ops : Array Oper} {S : World → Prop} {o : Oper} {a : Act} (hwt : Region.wanted o (yielded ops a.tmps) = true) (ty : TypeId) (x : Operand) (ho : o.op = .load ty x) (g off : Nat) (hx : a.eval x = .pointer (some ⟨g, off, none⟩)) {T : TypeId} {l : List Value} (hS : ∀ w, S w → B w g T l)
    (part : List Value) (hp : (l.drop off).take part.length = part) {d : TypeDesc} (hu : P.underlying ty = some d) (hd : d.isRow = true) (hi : (P.info? ty).map (·.size) = some part.length) :
    YieldsIf P ops S o (.agg part.toArray) a :=
  .inl ⟨hwt, fun w hw => by
    have e := run_loadAt_mid (P := P) w g off _ _ _ ((hS w hw).rangeAt off part hp) hu hd hi
    unfold execOp
    simp only [ho, hx, Sem.run_bind, e, Result.andThen_ok, Sem.run_pure]⟩

theorem guard_Begins (l0 : List Int) (a1 a2 : Int) (hg : a1 < 0 ∨ a2 < 0 ∨ 300 < a1 ∨ 300 < a2) (W : World) :
    Calls Try.prog 15 #[.agg (Eq.ints .u64 l0), .int .i64 a1, .int .i64 a2] W fun e w' => e = .returned (.bool true) ∧ Below W.heap.size W w' := by
  generalize Eq.ints .u64 l0 = S
  by_cases h1 : a1 < 0
  · clear hg
    go_enter Try.func15, Try.ntmps15
    go_wp2
    go_ret
    exact ⟨rfl, (Below.refl _ _).alloc (Nat.le_refl _) _⟩
  · by_cases h2 : a2 < 0
    · clear hg
      go_enter Try.func15, Try.ntmps15
      go_wp2
      go_ret
      exact ⟨rfl, (Below.refl _ _).alloc (Nat.le_refl _) _⟩
    · by_cases h3 : 300 < a1
      · clear hg
        go_enter Try.func15, Try.ntmps15
        go_wp2
        go_ret
        exact ⟨rfl, (Below.refl _ _).alloc (Nat.le_refl _) _⟩
      · have h4 : 300 < a2 := by omega
        clear hg
        go_enter Try.func15, Try.ntmps15
        go_wp2
        go_ret
        exact ⟨rfl, (Below.refl _ _).alloc (Nat.le_refl _) _⟩

set_option maxRecDepth 100000 in
set_option maxHeartbeats 4000000 in
theorem walk_FnDrawBegins (hb : BlockC) (l0 : List Int) (hl0 : l0.length = 4) (w0 : ∀ x ∈ l0, (Lit.int .u64 x).wf = true) (a1 : Int) (w1 : (Lit.int .i64 a1).wf = true) (a2 : Int) (w2 : (Lit.int .i64 a2).wf = true) (W : World) :
    Calls Try.prog 15 #[.agg (Eq.ints .u64 l0), .int .i64 a1, .int .i64 a2] W fun e w' => e = .returned (.bool true) ∧ Below W.heap.size W w' := by
  by_cases hg : a1 < 0 ∨ a2 < 0 ∨ 300 < a1 ∨ 300 < a2
  · exact guard_Begins l0 a1 a2 hg W
  obtain ⟨s0, s1, s2, s3, hs⟩ := seed_of hl0 w0
  rw [hs]
  obtain ⟨n, rfl⟩ : ∃ n : Nat, a1 = (n : Int) := ⟨a1.toNat, by omega⟩
  obtain ⟨m, rfl⟩ : ∃ m : Nat, a2 = (m : Int) := ⟨a2.toNat, by omega⟩
  have n1 : (0 : Int) ≤ (n : Int) := by omega
  have n2 : (n : Int) ≤ 300 := by omega
  have m1 : (0 : Int) ≤ (m : Int) := by omega
  have m2 : (m : Int) ≤ 300 := by omega
  clear hg w1 w2 hl0 w0 hs
  have h30 := Try.underlying30
  have h33 := Try.underlying33
  have h35 := Try.underlying35
  have cD := fun w => draw_any hb s0 s1 s2 s3 n (by omega) w
  have cE := fun w => draw_any hb s0 s1 s2 s3 (n + m) (by omega) w
  have cS := fun w => specStart_any s0 s1 s2 s3 w
  have hla := (seeded s0 s1 s2 s3).list_get n
  have hlb := (seeded s0 s1 s2 s3).list_get (n + m)
  have hda := (seeded s0 s1 s2 s3).list_length n
  have hdb := (seeded s0 s1 s2 s3).list_length (n + m)
  have heq : ∀ k, k < n → ((seeded s0 s1 s2 s3).list (n + m)).getD k 0 = ((seeded s0 s1 s2 s3).list n).getD k 0 := fun k hk => by
    rw [hla k hk, hlb k (by omega)]
  have hfst : 0 < n → ((seeded s0 s1 s2 s3).list n).getD 0 0 = (seeded s0 s1 s2 s3).buf.getD 0 0 := fun h => by
    rw [hla 0 h]
    exact G.nth_in (seeded s0 s1 s2 s3) 0 (by show 0 + 0 < 32; omega)
  have hx2 : (seeded s0 s1 s2 s3).parts.toArray.extract 4 36 = (u64s (seeded s0 s1 s2 s3).buf).toArray := by
    apply Array.ext'
    have hbl := (seeded s0 s1 s2 s3).bufs_length
    unfold G.parts pt
    simp [List.extract, hbl]
  have hb0 : (u64s (seeded s0 s1 s2 s3).buf).toArray[0]? = some (.int .u64 (n64 ((seeded s0 s1 s2 s3).buf.getD 0 0))) := by
    rw [List.getElem?_toArray]
    exact u64s_get _ _ (by rw [G.buf_length]; omega)
  clear hla hlb
  generalize (seeded s0 s1 s2 s3).list n = LA at cD heq hda hfst
  generalize (seeded s0 s1 s2 s3).list (n + m) = LB at cE heq hdb
  generalize (seeded s0 s1 s2 s3).buf.getD 0 0 = b0 at hfst hb0
  generalize (u64s (seeded s0 s1 s2 s3).buf).toArray = UB at hx2 hb0
  generalize (seeded s0 s1 s2 s3).parts.toArray = R at cS hx2
  have rf : ∀ w, (Instr.field 35 (.agg R) 1).run Try.prog w = .ok (.agg UB) w := fun w => by
    obtain ⟨t4, ht4, hs4⟩ := Ch.size_of' (T := 33) (n := 32) (by kernel_rfl)
    have p := Eq.run_part_array h33 ht4 hs4 R 4 w
    rw [show 4 + 32 = 36 from rfl, hx2] at p
    simp [Instr.field, run_underlying h35, asAgg, p]
  have ri : ∀ w, (Instr.index 33 (.agg UB) (.int .i64 0)).run Try.prog w = .ok (.int .u64 (n64 b0)) w := fun w => by
    obtain ⟨t5, ht5, hs5⟩ := Ch.size_of' (T := 29) (n := 1) (by kernel_rfl)
    have p := Eq.run_part_int Try.underlying29 UB 0 _ hb0 w
    simp [Instr.index, asIntOf, run_underlying h33, sizeOf, typeInfo, ht5, hs5, p]
  clear hx2 hb0
  have hcast : ((n + m : Nat) : Int) = (n : Int) + (m : Int) := by omega
  rw [hcast] at cE
  have HEQ := Lib.hid heq
  have HDA := Lib.hid hda
  have HDB := Lib.hid hdb
  have HFST := Lib.hid hfst
  have CD := Lib.hid cD
  have CE := Lib.hid cE
  have CS := Lib.hid cS
  clear heq hda hdb cD cE cS hfst
  have hSi : (Try.prog.info? 30).map (·.size) = some (u64s [s0, s1, s2, s3]).length := by kernel_rfl
  have hw1 : IntKind.i64.wrap ((n : Int) + (m : Int)) = (n : Int) + (m : Int) := by rw [IntKind.wrap_i64]; omega
  go_enter Try.func15, Try.ntmps15
  go_wp2_with (refine wpList_box rfl 30 _ rfl _ (u64s [s0, s1, s2, s3]) rfl rfl ?_; intro gs w4 hgs hlt1 hS4 e4; (try go_frame))
  have e4' : Below W.heap.size W w4.drew := below_drewN e4 1
  refine wp_region_pick (fun w => B w gs 30 (u64s [s0, s1, s2, s3])) [0, 1, 3, 4, 5, 6] [2, 7, 8, 9] (by kernel_rfl) (by kernel_rfl) (fun _ _ d _ _ h => by cases d <;> exact h) hS4.drew ?_
  simp only [pick, List.drop_succ_cons, List.drop_zero]
  refine ⟨_, yieldsIf_load_part rfl 30 _ rfl gs 0 rfl (fun w h => h) (u64s [s0, s1, s2, s3]) (by rw [List.drop_zero]; exact List.take_length) h30 rfl hSi, ?_⟩
  simp only [Act.put, List.setIfInBounds_toArray, List.set_cons_zero, List.set_cons_succ]
  refine ⟨?_, Or.inl ⟨by rfl, ?_⟩, ?_⟩
  rotate_left
  · intro w hw; go_simp; try with_reducible rfl
  simp only [Act.put, List.setIfInBounds_toArray, List.set_cons_zero, List.set_cons_succ]
  refine ⟨_, yieldsIf_load_part rfl 30 _ rfl gs 0 rfl (fun w h => h) (u64s [s0, s1, s2, s3]) (by rw [List.drop_zero]; exact List.take_length) h30 rfl hSi, ?_⟩
  simp only [Act.put, List.setIfInBounds_toArray, List.set_cons_zero, List.set_cons_succ]
  refine ⟨?_, Or.inl ⟨by rfl, ?_⟩, ?_⟩
  rotate_left
  · intro w hw; go_simp; try with_reducible rfl
  simp only [Act.put, List.setIfInBounds_toArray, List.set_cons_zero, List.set_cons_succ]
  refine ⟨?_, Or.inl ⟨by rfl, ?_⟩, ?_⟩
  rotate_left
  · intro w hw; go_simp; try with_reducible rfl
  simp only [Act.put, List.setIfInBounds_toArray, List.set_cons_zero, List.set_cons_succ]
  refine ⟨?_, Or.inl ⟨by rfl, ?_⟩, ?_⟩
  rotate_left
  · intro w hw; go_simp; try with_reducible rfl
  simp only [Act.put, List.setIfInBounds_toArray, List.set_cons_zero, List.set_cons_succ]
  refine wpFirst_nil ?_
  have hS5 := hS4.drew
  generalize w4.drew = w5 at hS5 e4' ⊢
  clear hS4 e4
  refine wpThen_step (fun K hK => ?_)
  go_simp
  refine (CD.out _).mono ?_
  rintro e w6 ⟨A1, c1, rfl, hr1, hb6⟩
  have hS6 := hS5.call hb6
  have e6 := below_call e4' e4'.size hb6
  go_simp
  refine hK _ _ hS6 ?_
  clear hK K
  refine wpThen_step (fun K hK => ?_)
  go_simp
  refine (CE.out _).mono ?_
  rintro e w7 ⟨A2, c2, rfl, hr2, hb7⟩
  have hS7 := hS6.call hb7
  have e7 := below_call e6 e6.size hb7
  have hr1' := hr1.below hb7
  go_simp
  refine hK _ _ hS7 ?_
  clear hK K
  iterate 2
    refine wpThen_step (fun K hK => ?_)
    go_simp
    refine hK _ _ hS7 ?_
    clear hK K
  refine wpThen_nil ?_
  go_wp2
  have hB1 : w6.heap.size ≤ w7.heap.size := hb7.size
  generalize w6.heap.size = B1 at hr1' hB1
  generalize w7.heap.size = B2 at hr2 hB1
  go_loopw [9] (fun i wr => ∃ k : Nat, k ≤ n ∧ i = .int .i64 (k : Int) ∧ Reads wr B1 1 A1 n (u64s LA) ∧ Reads wr B2 1 A2 (n + m) (u64s LB) ∧ B wr gs 30 (u64s [s0, s1, s2, s3]) ∧ Below W.heap.size W wr) (fun i _ => n - (intOf i).toNat)
  case atStart => exact ⟨0, Nat.zero_le _, rfl, hr1', hr2, hS7, e7⟩
  case round =>
    clear hr1' hr2 e7 hr1 hb7 hb6 hS5 hS6 hS7 e6 e4'
    obtain ⟨k, hk, rfl, hrA, hrB, hS, hbel⟩ := hrel
    by_cases hlt : k < n
    · have hlt' : (k : Int) < (n : Int) := by omega
      have e0 := HEQ.out k hlt
      obtain ⟨ad, u, hA1, _, hu, hc⟩ := hrA.at_ hlt
      obtain ⟨ad2, u2, hA2, _, hu2, hc2⟩ := hrB.at_ (show k < n + m by omega)
      rw [u64s_get _ _ (by rw [HDA.out]; exact hlt)] at hu
      rw [u64s_get _ _ (by rw [HDB.out]; omega), e0] at hu2
      obtain rfl := Option.some.inj hu
      obtain rfl := Option.some.inj hu2
      subst hA1
      subst hA2
      clear e0 hu hu2
      generalize LA.getD k 0 = v at hc hc2
      have q1 : (k : Int) < (n : Int) + (m : Int) := by omega
      go_wp2_with fail
      go_quiet (fail)
      have hrA' := hrA.drewN nq
      have hrB' := hrB.drewN nq
      have hS' := hS.drewN nq
      have hbel' := below_drewN hbel nq
      go_wp2
      go_roundw
      case rel => exact ⟨k + 1, by omega, by go_num, hrA', hrB', hS', hbel'⟩
      case measure => simp [intOf]; omega
    · have hge : (n : Int) ≤ (k : Int) := by omega
      by_cases hn0 : n = 0
      · have hn0' : (n : Int) = 0 := by omega
        go_wp2
        go_quiet (fail)
        have hbel' := below_drewN hbel nq
        go_wp2
        go_ret
        exact ⟨rfl, hbel'⟩
      · have hn0' : (n : Int) ≠ 0 := by omega
        have hn0'' : (0 : Int) < (n : Int) := by omega
        have hn0n : 0 < n := by omega
        have hbq : ((n : Int) == 0) = false := beq_eq_false_iff_ne.2 hn0'
        have hbd : decide ((n : Int) = 0) = false := decide_eq_false hn0'
        have e0 := HFST.out (by omega)
        obtain ⟨ad, u, hA1, had, hu, hc⟩ := hrA.at_ (show 0 < n by omega)
        rw [u64s_get _ _ (by rw [HDA.out]; omega), e0] at hu
        obtain rfl := Option.some.inj hu
        subst hA1
        clear e0 hu
        go_wp2
        refine wp_region_pick (fun w => B w gs 30 (u64s [s0, s1, s2, s3]) ∧ w.cell? ad = some (.int .u64 (n64 b0))) [0, 1, 2, 3, 4, 5, 6] [7, 8, 9, 10, 11, 12] (by kernel_rfl) (by kernel_rfl) (fun _ _ d _ _ h => by cases d <;> exact h) ⟨hS.drew, (by rw [Addr.add_zero'] at hc; exact hc)⟩ ?_
        simp only [pick, List.drop_succ_cons, List.drop_zero]
        refine ⟨?_, Or.inl ⟨by rfl, ?_⟩, ?_⟩
        rotate_left
        · intro w hw; go_simp; try with_reducible rfl
        simp only [Act.put, List.setIfInBounds_toArray, List.set_cons_zero, List.set_cons_succ]
        refine ⟨?_, Or.inl ⟨by rfl, ?_⟩, ?_⟩
        rotate_left
        · intro w hw; go_simp; try with_reducible rfl
        simp only [Act.put, List.setIfInBounds_toArray, List.set_cons_zero, List.set_cons_succ]
        refine ⟨?_, Or.inl ⟨by rfl, ?_⟩, ?_⟩
        rotate_left
        · intro w hw; go_simp; try with_reducible rfl
        simp only [Act.put, List.setIfInBounds_toArray, List.set_cons_zero, List.set_cons_succ]
        refine ⟨?_, Or.inl ⟨by rfl, ?_⟩, ?_⟩
        rotate_left
        · intro w hw; go_simp; try with_reducible rfl
        simp only [Act.put, List.setIfInBounds_toArray, List.set_cons_zero, List.set_cons_succ]
        refine ⟨?_, Or.inl ⟨by rfl, ?_⟩, ?_⟩
        rotate_left
        · intro w hw; go_simp; try with_reducible rfl
        simp only [Act.put, List.setIfInBounds_toArray, List.set_cons_zero, List.set_cons_succ]
        refine ⟨?_, Or.inl ⟨by rfl, ?_⟩, ?_⟩
        rotate_left
        · intro w hw; have f := hw.2; go_simp; try with_reducible rfl
        simp only [Act.put, List.setIfInBounds_toArray, List.set_cons_zero, List.set_cons_succ]
        refine ⟨_, yieldsIf_load_wanted (by rfl) 30 _ rfl gs 0 rfl (fun w h => h.1) (u64s [s0, s1, s2, s3]) (by rw [List.drop_zero]; exact List.take_length) h30 rfl hSi, ?_⟩
        simp only [Act.put, List.setIfInBounds_toArray, List.set_cons_zero, List.set_cons_succ]
        refine wpFirst_nil ?_
        have hS1 := hS.drew
        have hc1 : wr.drew.cell? ad = some (.int .u64 (n64 b0)) := by rw [Addr.add_zero'] at hc; exact hc
        have e1 : Below W.heap.size W wr.drew := below_drewN hbel 1
        have hadlt : ad.block < wr.drew.heap.size := World.block_lt_of_cell? _ _ hc1
        generalize wr.drew = v1 at hS1 hc1 e1 hadlt ⊢
        refine wpThen_step (fun K hK => ?_)
        go_simp
        refine (CS.out _).mono ?_
        rintro e v2 ⟨rfl, hb2⟩
        have hS2 := hS1.call hb2
        have hc2 : v2.cell? ad = some (.int .u64 (n64 b0)) := (hb2.cell hadlt).trans hc1
        have e2 := below_call e1 e1.size hb2
        go_simp
        refine hK _ _ ⟨hS2, hc2⟩ ?_
        clear hK K
        refine wpThen_step (fun K hK => ?_)
        go_simp
        refine hK _ _ ⟨hS2, hc2⟩ ?_
        clear hK K
        iterate 4
          refine wpThen_step (fun K hK => ?_)
          go_simp
          refine hK _ _ ⟨hS2, hc2⟩ ?_
          clear hK K
        refine wpThen_nil ?_
        go_wp2
        go_ret
        exact ⟨rfl, e2⟩
end Go.Proofs.Ytjhpffenlhfilaa
