/- Plain mathematics: the generator's state: a seed, its group of blocks, how many numbers of the group are drawn. -/
import Derived.Test.YtjhpffenlhfilaaCha
namespace Go.Proofs.Ytjhpffenlhfilaa.Ch

structure G where
  s0 : V
  s1 : V
  s2 : V
  s3 : V
  g : Nat
  i : Nat

/-- The counter. -/
def G.c (x : G) : W := BitVec.ofNat 32 (4 * x.g)
def G.buf (x : G) : List V := blockL x.s0 x.s1 x.s2 x.s3 x.c
/-- How many there are. -/
def G.n (x : G) : Nat := if x.g = 3 then 28 else 32
def G.ok (x : G) : Prop := x.g < 4 ∧ x.i ≤ x.n
def seeded (s0 s1 s2 s3 : V) : G := ⟨s0, s1, s2, s3, 0, 0⟩
def G.refill (x : G) : G := if x.g < 3 then { x with g := x.g + 1, i := 0 } else seeded (x.buf.getD 28 0) (x.buf.getD 29 0) (x.buf.getD 30 0) (x.buf.getD 31 0)
def G.adv (x : G) : G := { x with i := x.i + 1 }
def G.val (x : G) : V := x.buf.getD x.i 0
/-- Where there is none: behind a refill. -/
def G.some_ (x : G) : G := if x.i < x.n then x else x.refill
def G.drawn (x : G) : G := x.some_.adv
def G.told (x : G) : V := x.some_.val
def G.full (x : G) : G := if x.i = 32 ∧ x.g < 3 then x.refill else x
def G.reseed (x : G) : G := seeded x.told x.drawn.told x.drawn.drawn.told x.drawn.drawn.drawn.told

theorem G.buf_length (x : G) : x.buf.length = 32 := blockL_length _ _ _ _ _
theorem G.n_le (x : G) : x.n ≤ 32 := by unfold G.n; split <;> omega
theorem G.n_ge (x : G) : 28 ≤ x.n := by unfold G.n; split <;> omega
theorem seeded_ok (s0 s1 s2 s3 : V) : (seeded s0 s1 s2 s3).ok := ⟨by show (0 : Nat) < 4; omega, Nat.zero_le _⟩
theorem G.refill_ok {x : G} (_ : x.ok) : x.refill.ok := by
  unfold G.refill
  split
  · rename_i hg; exact ⟨by show x.g + 1 < 4; omega, Nat.zero_le _⟩
  · exact seeded_ok _ _ _ _
theorem G.refill_i (x : G) : x.refill.i = 0 := by
  unfold G.refill
  split <;> rfl
theorem G.refill_lt (x : G) : x.refill.i < x.refill.n := by rw [G.refill_i]; have := x.refill.n_ge; omega
theorem G.adv_ok {x : G} (h : x.ok) (hi : x.i < x.n) : x.adv.ok := ⟨h.1, hi⟩
theorem G.some_lt (x : G) : x.some_.i < x.some_.n := by
  unfold G.some_
  split
  · assumption
  · exact x.refill_lt
theorem G.some_ok {x : G} (h : x.ok) : x.some_.ok := by
  unfold G.some_
  split
  · exact h
  · exact G.refill_ok h
theorem G.drawn_ok {x : G} (h : x.ok) : x.drawn.ok := G.adv_ok (G.some_ok h) x.some_lt
theorem G.full_ok {x : G} (h : x.ok) : x.full.ok := by
  unfold G.full
  split
  · exact G.refill_ok h
  · exact h
theorem G.reseed_ok (x : G) : x.reseed.ok := seeded_ok _ _ _ _

/-- 39 cells: 32, four, three. -/
def st (A : List Value) (q0 q1 q2 q3 i n c : Value) : List Value := A ++ [q0, q1, q2, q3, i, n, c]
/-- 39 cells: four, 32, three. -/
def pt (q0 q1 q2 q3 : Value) (A : List Value) (i n c : Value) : List Value := [q0, q1, q2, q3] ++ (A ++ [i, n, c])
section
variable {A : List Value} (hA : A.length = 32) (q0 q1 q2 q3 i n c v : Value)
include hA
theorem st_length : (st A q0 q1 q2 q3 i n c).length = 39 := by simp [st, hA]
theorem st_get32 : (st A q0 q1 q2 q3 i n c)[32]? = some q0 := by unfold st; rw [List.getElem?_append_right (by omega), hA]; rfl
theorem st_get33 : (st A q0 q1 q2 q3 i n c)[33]? = some q1 := by unfold st; rw [List.getElem?_append_right (by omega), hA]; rfl
theorem st_get34 : (st A q0 q1 q2 q3 i n c)[34]? = some q2 := by unfold st; rw [List.getElem?_append_right (by omega), hA]; rfl
theorem st_get35 : (st A q0 q1 q2 q3 i n c)[35]? = some q3 := by unfold st; rw [List.getElem?_append_right (by omega), hA]; rfl
theorem st_get36 : (st A q0 q1 q2 q3 i n c)[36]? = some i := by unfold st; rw [List.getElem?_append_right (by omega), hA]; rfl
theorem st_get37 : (st A q0 q1 q2 q3 i n c)[37]? = some n := by unfold st; rw [List.getElem?_append_right (by omega), hA]; rfl
theorem st_get38 : (st A q0 q1 q2 q3 i n c)[38]? = some c := by unfold st; rw [List.getElem?_append_right (by omega), hA]; rfl
theorem st_low (j : Nat) (hj : j < 32) : (st A q0 q1 q2 q3 i n c)[j]? = A[j]? := by unfold st; rw [List.getElem?_append_left (by omega)]
theorem st_set32 : (st A q0 q1 q2 q3 i n c).set 32 v = st A v q1 q2 q3 i n c := by unfold st; rw [List.set_append_right _ _ (by omega), hA]; rfl
theorem st_set33 : (st A q0 q1 q2 q3 i n c).set 33 v = st A q0 v q2 q3 i n c := by unfold st; rw [List.set_append_right _ _ (by omega), hA]; rfl
theorem st_set34 : (st A q0 q1 q2 q3 i n c).set 34 v = st A q0 q1 v q3 i n c := by unfold st; rw [List.set_append_right _ _ (by omega), hA]; rfl
theorem st_set35 : (st A q0 q1 q2 q3 i n c).set 35 v = st A q0 q1 q2 v i n c := by unfold st; rw [List.set_append_right _ _ (by omega), hA]; rfl
theorem st_set36 : (st A q0 q1 q2 q3 i n c).set 36 v = st A q0 q1 q2 q3 v n c := by unfold st; rw [List.set_append_right _ _ (by omega), hA]; rfl
theorem st_set37 : (st A q0 q1 q2 q3 i n c).set 37 v = st A q0 q1 q2 q3 i v c := by unfold st; rw [List.set_append_right _ _ (by omega), hA]; rfl
theorem st_set38 : (st A q0 q1 q2 q3 i n c).set 38 v = st A q0 q1 q2 q3 i n v := by unfold st; rw [List.set_append_right _ _ (by omega), hA]; rfl
theorem st_seed (p0 p1 p2 p3 : Value) : (st A q0 q1 q2 q3 i n c).take 32 ++ [p0, p1, p2, p3] ++ (st A q0 q1 q2 q3 i n c).drop 36 = st A p0 p1 p2 p3 i n c := by
  unfold st
  rw [List.take_append_of_le_length (by omega), List.take_of_length_le (by omega), List.drop_append, hA, List.drop_of_length_le (by omega)]
  simp
theorem st_buf (R : List Value) : R ++ (st A q0 q1 q2 q3 i n c).drop 32 = st R q0 q1 q2 q3 i n c := by
  unfold st
  rw [List.drop_append, hA, List.drop_of_length_le (by omega)]
  rfl
theorem st_take_buf : (st A q0 q1 q2 q3 i n c).take 32 = A := by
  unfold st
  rw [List.take_append_of_le_length (by omega), List.take_of_length_le (by omega)]
theorem st_take_seed : ((st A q0 q1 q2 q3 i n c).drop 32).take 4 = [q0, q1, q2, q3] := by
  unfold st
  rw [List.drop_append, hA, List.drop_of_length_le (by omega)]
  rfl
end
theorem st_split (l : List Value) (h : l.length = 39) : ∃ A q0 q1 q2 q3 i n c, A.length = 32 ∧ l = st A q0 q1 q2 q3 i n c := by
  have e := List.take_append_drop 32 l
  have hd : (l.drop 32).length = 7 := by rw [List.length_drop, h]
  match hm : l.drop 32, hd with
  | [q0, q1, q2, q3, i, n, c], _ => exact ⟨l.take 32, q0, q1, q2, q3, i, n, c, by rw [List.length_take, h]; rfl, by unfold st; rw [← hm, e]⟩

/-- The package's State, cell by cell; the parts as they are told. -/
def G.cells (x : G) : List Value := st (u64s x.buf) (.int .u64 (n64 x.s0)) (.int .u64 (n64 x.s1)) (.int .u64 (n64 x.s2)) (.int .u64 (n64 x.s3)) (.int .u32 (x.i : Int)) (.int .u32 (x.n : Int)) (.int .u32 ((4 * x.g : Nat) : Int))
def G.parts (x : G) : List Value := pt (.int .u64 (n64 x.s0)) (.int .u64 (n64 x.s1)) (.int .u64 (n64 x.s2)) (.int .u64 (n64 x.s3)) (u64s x.buf) (.int .i64 (x.i : Int)) (.int .i64 (x.n : Int)) (.int .i64 ((4 * x.g : Nat) : Int))
theorem G.bufs_length (x : G) : (u64s x.buf).length = 32 := by rw [u64s_length, G.buf_length]
theorem G.cells_length (x : G) : x.cells.length = 39 := st_length x.bufs_length _ _ _ _ _ _ _
theorem G.parts_length (x : G) : x.parts.length = 39 := by simp [G.parts, pt, G.bufs_length]
theorem n32_small (n : Nat) (h : n < 4294967296) : n32 (BitVec.ofNat 32 n) = (n : Int) := by
  unfold n32
  rw [BitVec.toNat_ofNat]
  omega
theorem and31 (i : Nat) (h : i < 32) : bits .and .u32 (i : Int) 31 = (i : Int) := by
  have : ∀ j : Fin 32, bits .and .u32 (j.val : Int) 31 = (j.val : Int) := by decide
  exact this ⟨i, h⟩
end Go.Proofs.Ytjhpffenlhfilaa.Ch
