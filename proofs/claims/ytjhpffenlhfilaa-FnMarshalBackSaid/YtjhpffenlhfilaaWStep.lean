/- The walks of the reference's next, refill, drawn, full. -/
import Derived.Test.YtjhpffenlhfilaaWParts2
import Derived.Test.YtjhpffenlhfilaaSeq
namespace Go.Proofs.Ytjhpffenlhfilaa.Ch
open Go.RowKit Mem

section
variable {A : List Value} (hA : A.length = 32) (q0 q1 q2 q3 i n c v : Value)
include hA
theorem pt_length : (pt q0 q1 q2 q3 A i n c).length = 39 := by simp [pt, hA]
theorem pt_low (j : Nat) (hj : j < 32) : (pt q0 q1 q2 q3 A i n c)[4 + j]? = A[j]? := by
  unfold pt
  rw [List.getElem?_append_right (by simp), show ([q0, q1, q2, q3] : List Value).length = 4 from rfl, Nat.add_sub_cancel_left, List.getElem?_append_left (by omega)]
theorem pt_high (j : Nat) : (pt q0 q1 q2 q3 A i n c)[36 + j]? = [i, n, c][j]? := by
  unfold pt
  rw [List.getElem?_append_right (by simp; omega), show ([q0, q1, q2, q3] : List Value).length = 4 from rfl, List.getElem?_append_right (by omega), show 36 + j - 4 - A.length = j by omega]
theorem pt_get36 : (pt q0 q1 q2 q3 A i n c)[36]? = some i := pt_high hA q0 q1 q2 q3 i n c 0
theorem pt_get37 : (pt q0 q1 q2 q3 A i n c)[37]? = some n := pt_high hA q0 q1 q2 q3 i n c 1
theorem pt_get38 : (pt q0 q1 q2 q3 A i n c)[38]? = some c := pt_high hA q0 q1 q2 q3 i n c 2
theorem pt_seth (j : Nat) : (pt q0 q1 q2 q3 A i n c).set (36 + j) v = [q0, q1, q2, q3] ++ (A ++ [i, n, c].set j v) := by
  unfold pt
  rw [List.set_append_right _ _ (by simp; omega), show ([q0, q1, q2, q3] : List Value).length = 4 from rfl, List.set_append_right _ _ (by omega), show 36 + j - 4 - A.length = j by omega]
theorem pt_set36 : (pt q0 q1 q2 q3 A i n c).set 36 v = pt q0 q1 q2 q3 A v n c := pt_seth hA q0 q1 q2 q3 i n c v 0
theorem pt_set37 : (pt q0 q1 q2 q3 A i n c).set 37 v = pt q0 q1 q2 q3 A i v c := pt_seth hA q0 q1 q2 q3 i n c v 1
theorem pt_set38 : (pt q0 q1 q2 q3 A i n c).set 38 v = pt q0 q1 q2 q3 A i n v := pt_seth hA q0 q1 q2 q3 i n c v 2
theorem pt_putwords (R : List Value) (hR : R.length = 32) : (pt q0 q1 q2 q3 A i n c).take 4 ++ R ++ (pt q0 q1 q2 q3 A i n c).drop (4 + R.length) = pt q0 q1 q2 q3 R i n c := by
  unfold pt
  have h1 : ([q0, q1, q2, q3] ++ (A ++ [i, n, c])).drop (4 + R.length) = [i, n, c] := by
    rw [← List.drop_drop, show List.drop 4 ([q0, q1, q2, q3] ++ (A ++ [i, n, c])) = A ++ [i, n, c] from rfl, hR, ← hA, List.drop_left]
  rw [h1]
  simp
end
theorem pt_seedpart (q0 q1 q2 q3 : Value) (A : List Value) (i n c : Value) : ((pt q0 q1 q2 q3 A i n c).drop 0).take 4 = [q0, q1, q2, q3] := by unfold pt; simp
theorem pt_putseed (q0 q1 q2 q3 : Value) (A : List Value) (i n c p0 p1 p2 p3 : Value) : (pt q0 q1 q2 q3 A i n c).take 0 ++ [p0, p1, p2, p3] ++ (pt q0 q1 q2 q3 A i n c).drop (0 + 4) = pt p0 p1 p2 p3 A i n c := by unfold pt; simp
theorem parts_pt (x : G) : x.parts = pt (.int .u64 (n64 x.s0)) (.int .u64 (n64 x.s1)) (.int .u64 (n64 x.s2)) (.int .u64 (n64 x.s3)) (u64s x.buf) (.int .i64 (x.i : Int)) (.int .i64 (x.n : Int)) (.int .i64 ((4 * x.g : Nat) : Int)) := rfl
theorem iParts (x : G) : (Try.prog.info? 35).map (·.size) = some x.parts.length := by rw [size35, x.parts_length]
theorem lParts (x : G) : x.parts.length = Z39.length := by rw [x.parts_length, Z39_length]
section
variable {P : Program}
theorem results_block_tmps2 {fn : Func} {p q q' : Tmp} {ty : TypeId} (h : fn.results = #[.cell p ty, .tmp q, .tmp q']) (tmps : Array Value) (w : World) (g : Nat) (t : TypeId) (l : List Value) (d : TypeDesc)
    (hp : tmps.getD p undef = .pointer (some ⟨g, 0, none⟩)) (hg : B w g t l)
    (hu : P.underlying ty = some d) (hd : d.isRow = true) (hi : (P.info? ty).map (·.size) = some l.length) :
    (results fn tmps).run P w = .ok (.tuple #[.agg l.toArray, tmps.getD q undef, tmps.getD q' undef]) w := by
  have hp' : tmps[p]?.getD undef = .pointer (some ⟨g, 0, none⟩) := by simpa using hp
  have hl := run_loadVar_row (P := P) w g t ty l.toArray (0, 0) d hg hu (by cases d <;> simp_all) (by simpa using hi)
  simp [results, h, hp', asAddr, hl]
end

set_option maxRecDepth 100000 in
set_option maxHeartbeats 2000000 in
theorem snext_some (x : G) (hi : x.i < x.n) (w : World) :
    Calls Try.prog 56 #[.agg x.parts.toArray] w fun e w' =>
      e = .returned (.tuple #[.agg x.adv.parts.toArray, .int .u64 (n64 x.val), .bool true]) ∧ Below w.heap.size w w' := by
  obtain ⟨tk, htk, hx, _⟩ := row_of zero35
  have h35 := Try.underlying35
  have hbl := x.bufs_length
  have hn32 := x.n_le
  have f36 : x.parts[36]? = some (.int .i64 (x.i : Int)) := pt_get36 hbl _ _ _ _ _ _ _
  have f37 : x.parts[37]? = some (.int .i64 (x.n : Int)) := pt_get37 hbl _ _ _ _ _ _ _
  have fi : x.parts[4 + x.i]? = some (.int .u64 (n64 x.val)) := (pt_low hbl _ _ _ _ _ _ _ _ (by omega)).trans (u64s_get _ _ (by rw [G.buf_length]; omega))
  have hset : x.parts.set 36 (.int .i64 ((x.i : Int) + 1)) = x.adv.parts := pt_set36 hbl _ _ _ _ _ _ _ _
  have hlen : 36 < x.parts.length := by rw [x.parts_length]; omega
  have IQ := Lib.hid (iParts x.adv)
  have HPL := Lib.hid (lParts x.adv)
  have hpo := parts_one x.adv
  have HSET := Lib.hid hset
  have HLEN := Lib.hid hlen
  obtain ⟨i, hiq⟩ : ∃ i, i = x.i := ⟨_, rfl⟩
  obtain ⟨n, hnq⟩ : ∃ n, n = x.n := ⟨_, rfl⟩
  rw [← hiq] at f36 hi HSET fi
  rw [← hnq] at f37 hi hn32
  clear hiq hnq hset hlen hbl
  have i1 : (i : Int) < (n : Int) := by omega
  have i2 : (i : Int) < 32 := by omega
  have i3 : (n : Int) ≤ 32 := by omega
  generalize x.val = v at fi ⊢
  generalize x.adv.parts = R at HSET IQ HPL hpo ⊢
  generalize x.parts = L at f36 f37 fi HSET HLEN ⊢
  have F36 := Lib.hid f36
  have F37 := Lib.hid f37
  have FI := Lib.hid fi
  clear f36 f37 fi
  go_enter Try.func56, Try.ntmps56
  go_wp2_with (first
    | (refine wpList_box rfl 35 _ rfl _ L rfl rfl ?_; intro gs w1 hgs hlt1 hS1 hb1; (try go_frame); have lgs : w.heap.size ≤ gs := hgs)
    | (refine wpList_alloc rfl 35 rfl tk _ Z39 htk hx rfl ?_; intro g2 w2 hg2 hlt2 hR2 hb2; (try go_frame); have hS2 := hS1.call hb2; have e2 := below_call hb1 hb1.size hb2; have n2s : g2 ≠ gs := (by have := hS1.lt; omega); have lg2 : w.heap.size ≤ g2 := (by have := hb1.size; omega); have c36 : w2.cell? ⟨gs, 36, none⟩ = some (.int .i64 (i : Int)) := (hS2.cell 36).trans F36.out; have c37 : w2.cell? ⟨gs, 37, none⟩ = some (.int .i64 (n : Int)) := (hS2.cell 37).trans F37.out; have ci : w2.cell? ⟨gs, 4 + i, none⟩ = some (.int .u64 (n64 v)) := (hS2.cell _).trans FI.out)
    | (refine wpList_store_one rfl 3 _ _ rfl gs 36 rfl hS2 (.int .i64 ((i : Int) + 1)) rfl HLEN.out rfl (by kernel_rfl) ?_; intro w5 hS5 hO5; (try go_frame); rw [HSET.out] at hS5; have hR5 := hR2.only hO5 n2s; have e5 := e2.trans (hO5.below _ lgs))
    | (refine wpList_load_all rfl 35 _ rfl gs rfl hS5 h35 rfl IQ.out ?_)
    | (refine wpList_store_all rfl 35 _ _ rfl g2 rfl hR5 R rfl HPL.out hpo IQ.out ?_; intro w6 hR6 hO6; (try go_frame); have e6 := e5.trans (hO6.below _ lg2)))
  refine bodyPost_ret (results_block_tmps2 rfl _ _ g2 35 R _ rfl hR6 h35 rfl IQ.out) rfl ?_
  exact ⟨rfl, e6⟩

set_option maxRecDepth 100000 in
set_option maxHeartbeats 2000000 in
theorem snext_none (x : G) (hi : ¬ x.i < x.n) (w : World) :
    Calls Try.prog 56 #[.agg x.parts.toArray] w fun e w' =>
      e = .returned (.tuple #[.agg x.parts.toArray, .int .u64 0, .bool false]) ∧ Below w.heap.size w w' := by
  obtain ⟨tk, htk, hx, _⟩ := row_of zero35
  have h35 := Try.underlying35
  have hbl := x.bufs_length
  have f36 : x.parts[36]? = some (.int .i64 (x.i : Int)) := pt_get36 hbl _ _ _ _ _ _ _
  have f37 : x.parts[37]? = some (.int .i64 (x.n : Int)) := pt_get37 hbl _ _ _ _ _ _ _
  have IQ := Lib.hid (iParts x)
  have HPL := Lib.hid (lParts x)
  have hpo := parts_one x
  obtain ⟨i, hiq⟩ : ∃ i, i = x.i := ⟨_, rfl⟩
  obtain ⟨n, hnq⟩ : ∃ n, n = x.n := ⟨_, rfl⟩
  rw [← hiq] at f36 hi
  rw [← hnq] at f37 hi
  clear hiq hnq hbl
  have i1 : (n : Int) ≤ (i : Int) := by omega
  generalize x.parts = L at f36 f37 IQ HPL hpo ⊢
  have F36 := Lib.hid f36
  have F37 := Lib.hid f37
  clear f36 f37
  go_enter Try.func56, Try.ntmps56
  go_wp2_with (first
    | (refine wpList_box rfl 35 _ rfl _ L rfl rfl ?_; intro gs w1 hgs hlt1 hS1 hb1; (try go_frame))
    | (refine wpList_alloc rfl 35 rfl tk _ Z39 htk hx rfl ?_; intro g2 w2 hg2 hlt2 hR2 hb2; (try go_frame); have hS2 := hS1.call hb2; have e2 := below_call hb1 hb1.size hb2; have lg2 : w.heap.size ≤ g2 := (by have := hb1.size; omega); have c36 : w2.cell? ⟨gs, 36, none⟩ = some (.int .i64 (i : Int)) := (hS2.cell 36).trans F36.out; have c37 : w2.cell? ⟨gs, 37, none⟩ = some (.int .i64 (n : Int)) := (hS2.cell 37).trans F37.out)
    | (refine wpList_load_all rfl 35 _ rfl gs rfl hS2 h35 rfl IQ.out ?_)
    | (refine wpList_store_all rfl 35 _ _ rfl g2 rfl hR2 L rfl HPL.out hpo IQ.out ?_; intro w6 hR6 hO6; (try go_frame); have e6 := e2.trans (hO6.below _ lg2)))
  refine bodyPost_ret (results_block_tmps2 rfl _ _ g2 35 L _ rfl hR6 h35 rfl IQ.out) rfl ?_
  exact ⟨rfl, e6⟩

/-- The last steps of refill, from the seed and the counter on. -/
def refL (s0 s1 s2 s3 : V) (c : Nat) : List Value := pt (.int .u64 (n64 s0)) (.int .u64 (n64 s1)) (.int .u64 (n64 s2)) (.int .u64 (n64 s3)) (u64s (blockL s0 s1 s2 s3 (BitVec.ofNat 32 c))) (.int .i64 0) (.int .i64 (if c = 12 then 28 else 32)) (.int .i64 (c : Int))
theorem refill_parts (x : G) (h : x.ok) : x.refill.parts = if x.g < 3 then refL x.s0 x.s1 x.s2 x.s3 (4 * x.g + 4) else refL (x.buf.getD 28 0) (x.buf.getD 29 0) (x.buf.getD 30 0) (x.buf.getD 31 0) 0 := by
  have hg := h.1
  by_cases h3 : x.g < 3
  · rw [if_pos h3]
    have h1 : x.refill = { x with g := x.g + 1, i := 0 } := if_pos h3
    rw [h1]
    unfold G.parts G.buf G.c G.n refL
    have e1 : 4 * (x.g + 1) = 4 * x.g + 4 := by omega
    simp only [e1]
    congr 2
    by_cases h8 : x.g + 1 = 3
    · rw [if_pos h8, if_pos (by omega)]; rfl
    · rw [if_neg h8, if_neg (by omega)]; rfl
  · rw [if_neg h3]
    have h1 : x.refill = seeded (x.buf.getD 28 0) (x.buf.getD 29 0) (x.buf.getD 30 0) (x.buf.getD 31 0) := if_neg h3
    rw [h1]
    rfl
theorem refL_length (s0 s1 s2 s3 : V) (c : Nat) : (refL s0 s1 s2 s3 c).length = 39 := pt_length (by rw [u64s_length, blockL_length]) _ _ _ _ _ _ _
theorem refL_one (s0 s1 s2 s3 : V) (c : Nat) : ∀ v ∈ refL s0 s1 s2 s3 c, v.oneCell' = true := by
  intro v hv
  unfold refL pt at hv
  rcases List.mem_append.1 hv with h | h
  · exact u64s_one [s0, s1, s2, s3] v h
  · rcases List.mem_append.1 h with h | h
    · exact u64s_one _ v h
    · simp only [List.mem_cons, List.not_mem_nil, or_false] at h
      rcases h with rfl | rfl | rfl <;> rfl
end Go.Proofs.Ytjhpffenlhfilaa.Ch
