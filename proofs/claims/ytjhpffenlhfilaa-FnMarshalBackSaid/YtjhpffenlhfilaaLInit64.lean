/- '==' on the parts of a state; the walk of the law on Init64. -/
import Derived.Test.YtjhpffenlhfilaaWParts2
import Derived.Test.YtjhpffenlhfilaaLSetup
import Derived.Laws.StructEq
namespace Go.Proofs.Ytjhpffenlhfilaa
open Go.RowKit Ch Mem

theorem size_u64 : ∃ ti, Try.prog.info? 29 = some ti ∧ ti.size = 1 := by
  have h : (Try.prog.info? 29).map (·.size) = some 1 := by kernel_rfl
  cases hq : Try.prog.info? 29 with
  | none => rw [hq] at h; cases h
  | some ti => rw [hq] at h; injection h with h; exact ⟨ti, rfl, h⟩
theorem size_of {T : TypeId} {n : Nat} (h : (Try.prog.info? T).map (·.size) = some n) : ∃ ti, Try.prog.info? T = some ti ∧ ti.size = n := by
  cases hq : Try.prog.info? T with
  | none => rw [hq] at h; cases h
  | some ti => rw [hq] at h; injection h with h; exact ⟨ti, rfl, h⟩
theorem ints_u64s (M : List V) : (u64s M).toArray = Eq.ints .u64 (M.map n64) := by simp [Eq.ints, u64s, Function.comp_def]

theorem fields35 : Try.prog.underlying 35 = some (.struct (Try.prog.fieldsOf 35)) := by
  unfold Program.fieldsOf
  rw [Try.underlying35]
theorem stood35 : Try.prog.stoodInHeld 35 = false := by kernel_rfl

theorem shape35 : ((Try.prog.fieldsOf 35).toList.map fun f => (f.type, f.offset)) = [(30, 0), (33, 4), (3, 36), (3, 37), (3, 38)] := by kernel_rfl

theorem eqFields_true {P : Program} (d : Nat) (xs ys : Array Value) (w : World) : ∀ (fs : List Field),
    (∀ p ∈ fs.map (fun f => (f.type, f.offset)), ∃ a b, (part p.1 xs p.2).run P w = .ok a w ∧ (part p.1 ys p.2).run P w = .ok b w ∧ (Op.equalIn d p.1 a b).run P w = .ok true w) → (Op.eqFields d xs ys fs).run P w = .ok true w
  | [], _ => rfl
  | f :: fs, h => by
    obtain ⟨a, b, h1, h2, h3⟩ := h (f.type, f.offset) (by simp)
    have ih := eqFields_true (P := P) d xs ys w fs fun p hp => h p (by rw [List.map_cons]; exact List.mem_cons_of_mem _ hp)
    have h1' : (part f.type xs f.offset).run P w = .ok a w := h1
    have h2' : (part f.type ys f.offset).run P w = .ok b w := h2
    have h3' : (Op.equalIn d f.type a b).run P w = .ok true w := h3
    simp only [Op.eqFields, Sem.run_bind, Sem.run_ite, h1', h2', h3', Result.andThen_ok, Bool.not_true, Bool.false_eq_true, if_false, ih]
    split <;> rfl

theorem eqParts (xs : Array Value) (S A : List Int) (hS : S.length = 4) (hA : A.length = 32) (i n c : Int) (x1 : xs.extract 0 4 = Eq.ints .u64 S) (x2 : xs.extract 4 36 = Eq.ints .u64 A)
    (g36 : xs[36]? = some (.int .i64 i)) (g37 : xs[37]? = some (.int .i64 n)) (g38 : xs[38]? = some (.int .i64 c)) (d : Nat) (w : World) :
    (Op.equalIn (d + 3) 35 (.agg xs) (.agg xs)).run Try.prog w = .ok true w := by
  obtain ⟨tj, htj, hsj⟩ := size_u64
  obtain ⟨t3, ht3, hs3⟩ := size_of (T := 30) (n := 4) (by kernel_rfl)
  obtain ⟨t4, ht4, hs4⟩ := size_of (T := 33) (n := 32) (by kernel_rfl)
  have p1 := Eq.run_part_array Try.underlying30 ht3 hs3 xs 0 w
  have p2 := Eq.run_part_array Try.underlying33 ht4 hs4 xs 4 w
  rw [Nat.zero_add, x1] at p1
  rw [show 4 + 32 = 36 from rfl, x2] at p2
  have p3 := Eq.run_part_int Try.underlying3 xs 36 _ g36 w
  have p4 := Eq.run_part_int Try.underlying3 xs 37 _ g37 w
  have p5 := Eq.run_part_int Try.underlying3 xs 38 _ g38 w
  have e1 := Eq.run_equalIn_ints d Try.underlying30 Try.underlying29 htj hsj S S hS hS w
  have e2 := Eq.run_equalIn_ints d Try.underlying33 Try.underlying29 htj hsj A A hA hA w
  rw [beq_self_eq_true] at e1 e2
  have e3 := fun (v : Int) => run_equalIn_int w (d + 1) 3 .i64 .i64 v v Try.underlying3
  simp only [beq_self_eq_true] at e3
  rw [run_equalIn_struct w (d + 2) 35 _ _ fields35 stood35]
  refine eqFields_true _ _ _ _ _ ?_
  rw [shape35]
  intro p hp
  simp only [List.mem_cons, List.not_mem_nil, or_false] at hp
  rcases hp with rfl | rfl | rfl | rfl | rfl
  · exact ⟨_, _, p1, p1, e1⟩
  · exact ⟨_, _, p2, p2, e2⟩
  · exact ⟨_, _, p3, p3, e3 _⟩
  · exact ⟨_, _, p4, p4, e3 _⟩
  · exact ⟨_, _, p5, p5, e3 _⟩

theorem eql35 (x : G) (w : World) : (binOp .eql 35 (.agg x.parts.toArray) (.agg x.parts.toArray)).run Try.prog w = .ok (.bool true) w := by
  have hbl := x.bufs_length
  have x1 : x.parts.toArray.extract 0 4 = Eq.ints .u64 ([x.s0, x.s1, x.s2, x.s3].map n64) := by
    unfold G.parts pt
    rw [← ints_u64s]
    apply Array.ext'
    simp [List.extract, u64s]
  have x2 : x.parts.toArray.extract 4 36 = Eq.ints .u64 (x.buf.map n64) := by
    rw [← ints_u64s]
    apply Array.ext'
    unfold G.parts pt
    simp [List.extract, hbl]
  have g36 : x.parts.toArray[36]? = some (.int .i64 (x.i : Int)) := by
    unfold G.parts pt
    rw [List.getElem?_toArray, List.getElem?_append_right (by simp), List.getElem?_append_right (by rw [hbl]; simp), hbl]
    rfl
  have g37 : x.parts.toArray[37]? = some (.int .i64 (x.n : Int)) := by
    unfold G.parts pt
    rw [List.getElem?_toArray, List.getElem?_append_right (by simp), List.getElem?_append_right (by rw [hbl]; simp), hbl]
    rfl
  have g38 : x.parts.toArray[38]? = some (.int .i64 ((4 * x.g : Nat) : Int)) := by
    unfold G.parts pt
    rw [List.getElem?_toArray, List.getElem?_append_right (by simp), List.getElem?_append_right (by rw [hbl]; simp), hbl]
    rfl
  have hb2 : (x.buf.map n64).length = 32 := by rw [List.length_map, x.buf_length]
  have hs2 : ([x.s0, x.s1, x.s2, x.s3].map n64).length = 4 := rfl
  generalize [x.s0, x.s1, x.s2, x.s3].map n64 = S at x1 hs2
  generalize x.buf.map n64 = A at x2 hb2
  generalize x.parts.toArray = xs at x1 x2 g36 g37 g38 ⊢
  rw [run_eql_struct, show (10000 : Nat) = 9997 + 3 from rfl, eqParts xs S A hs2 hb2 _ _ _ x1 x2 g36 g37 g38 9997 w]
  rfl

attribute [local go_sem ↓] loadSeed_eq

set_option maxRecDepth 100000 in
set_option maxHeartbeats 2000000 in
theorem walk_FnExactInit64 (hb : BlockC) (l0 : List Int) (hl0 : l0.length = 4) (w0 : ∀ x ∈ l0, (Lit.int .u64 x).wf = true) (W : World) :
    Calls Try.prog 13 #[.agg (Eq.ints .u64 l0)] W fun e w' => e = .returned (.bool true) ∧ Below W.heap.size W w' := by
  obtain ⟨s0, s1, s2, s3, hs⟩ := seed_of hl0 w0
  rw [hs]
  have eqs := fun w => eql35 (seeded s0 s1 s2 s3) w
  have ca := fun w => implInit64_any hb s0 s1 s2 s3 w
  have cb := fun w => specStart_any s0 s1 s2 s3 w
  generalize (seeded s0 s1 s2 s3).parts = R at eqs ca cb
  have ldS : ∀ w gs, B w gs 30 (u64s [s0, s1, s2, s3]) → (loadSeed (.pointer (some ⟨gs, 0, none⟩))).run Try.prog w = .ok (.agg (u64s [s0, s1, s2, s3]).toArray) w := fun w gs h => run_loadSeed h
  clear hl0 w0 hs
  generalize u64s [s0, s1, s2, s3] = S at ca cb ldS ⊢
  go_enter Try.func13, Try.ntmps13
  go_wp2_with (refine wpList_box rfl 30 _ rfl _ S rfl rfl ?_; intro gs wS hgs hltS hS hbS; (try go_frame))
  have hS0 := hS.drew
  have E0 := ldS _ _ hS0
  have e0 : Below W.heap.size W wS.drew := below_drewN hbS 1
  have hsz := hbS.size
  go_region_with (first
    | (go_at_call 29; refine (ca _).mono ?_; rintro e wa ⟨rfl, hba⟩; (first | (have hSa := hSb.call hba; have ea := below_call eb eb.size hba) | (have hSa := hS0.call hba; have ea := below_call e0 hsz hba)); have Ea := ldS _ _ hSa)
    | (go_at_call 34; refine (cb _).mono ?_; rintro e wb ⟨rfl, hbb⟩; (first | (have hSb := hSa.call hbb; have eb := below_call ea ea.size hbb) | (have hSb := hS0.call hbb; have eb := below_call e0 hsz hbb)); have Eb := ldS _ _ hSb))
  all_goals (
    go_wp2
    go_ret
    first | exact ⟨rfl, eb⟩ | exact ⟨rfl, ea⟩)
end Go.Proofs.Ytjhpffenlhfilaa
