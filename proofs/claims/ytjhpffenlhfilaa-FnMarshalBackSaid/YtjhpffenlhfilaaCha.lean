/- Plain mathematics: ChaCha8's block over lists of words; four blocks side by side. -/
import Derived.Test.YtjhpffenlhfilaaWSetup2
namespace Go.Proofs.Ytjhpffenlhfilaa.Ch

/-- A quarter round at four places. -/
def at4 (x : List W) (a b c d : Nat) : List W :=
  (((x.set a (qr (x.getD a 0) (x.getD b 0) (x.getD c 0) (x.getD d 0)).1).set b (qr (x.getD a 0) (x.getD b 0) (x.getD c 0) (x.getD d 0)).2.1).set c (qr (x.getD a 0) (x.getD b 0) (x.getD c 0) (x.getD d 0)).2.2.1).set d
    (qr (x.getD a 0) (x.getD b 0) (x.getD c 0) (x.getD d 0)).2.2.2
theorem at4_length (x : List W) (a b c d : Nat) : (at4 x a b c d).length = x.length := by simp [at4]
/-- Two rounds: columns, diagonals. -/
def dbl (x : List W) : List W :=
  at4 (at4 (at4 (at4 (at4 (at4 (at4 (at4 x 0 4 8 12) 1 5 9 13) 2 6 10 14) 3 7 11 15) 0 5 10 15) 1 6 11 12) 2 7 8 13) 3 4 9 14
theorem dbl_length (x : List W) : (dbl x).length = x.length := by simp [dbl, at4_length]
def rounds : Nat → List W → List W
  | 0, x => x
  | n + 1, x => dbl (rounds n x)
theorem rounds_length (n : Nat) (x : List W) : (rounds n x).length = x.length := by
  induction n with
  | zero => rfl
  | succ n ih => simp [rounds, dbl_length, ih]

/-- The matrix of a seed and a counter. -/
def mat (s0 s1 s2 s3 : V) (c : W) : List W :=
  [0x61707865#32, 0x3320646e#32, 0x79622d32#32, 0x6b206574#32, lo s0, hi s0, lo s1, hi s1, lo s2, hi s2, lo s3, hi s3, c, 0, 0, 0]
theorem mat_length (s0 s1 s2 s3 : V) (c : W) : (mat s0 s1 s2 s3 c).length = 16 := rfl

/-- What is told of a matrix behind the rounds: the middle added to the matrix again. -/
def addMid (x first : List W) : List W := (List.range 16).map fun i => if 4 ≤ i ∧ i < 12 then first.getD i 0 + x.getD i 0 else x.getD i 0
def fin (first : List W) : List W := addMid (rounds 4 first) first
theorem addMid_length (x first : List W) : (addMid x first).length = 16 := by simp [addMid]
theorem fin_length (first : List W) : (fin first).length = 16 := addMid_length _ _

/-- Four matrices side by side: column k of them. -/
def col (M : List W) (k : Nat) : List W := (List.range 16).map fun j => M.getD (4 * j + k) 0
theorem col_length (M : List W) (k : Nat) : (col M k).length = 16 := by simp [col]
theorem col_get (M : List W) (k j : Nat) (hj : j < 16) : (col M k).getD j 0 = M.getD (4 * j + k) 0 := by
  simp [col, List.getD, hj]

/-- Column k written anew down to row j. -/
def upd (M N : List W) (k j : Nat) : List W := (List.range 64).map fun i => if i % 4 = k ∧ i / 4 < j then N.getD (i / 4) 0 else M.getD i 0
theorem upd_length (M N : List W) (k j : Nat) : (upd M N k j).length = 64 := by simp [upd]
theorem upd_get (M N : List W) (k j i : Nat) (hi : i < 64) : (upd M N k j).getD i 0 = if i % 4 = k ∧ i / 4 < j then N.getD (i / 4) 0 else M.getD i 0 := by
  unfold upd
  rw [List.getD_eq_getElem?_getD, List.getElem?_map, List.getElem?_range hi]
  rfl
theorem list_ext_getD {l m : List W} (n : Nat) (hl : l.length = n) (hm : m.length = n) (h : ∀ i, i < n → l.getD i 0 = m.getD i 0) : l = m := by
  apply List.ext_getElem (by omega)
  intro i h1 h2
  have := h i (by omega)
  simpa [List.getD, h1, h2] using this
theorem upd_zero (M N : List W) (k : Nat) (hM : M.length = 64) : upd M N k 0 = M :=
  list_ext_getD 64 (upd_length _ _ _ _) hM fun i hi => by rw [upd_get _ _ _ _ _ hi]; simp
theorem upd_keep (M N : List W) (k j j' : Nat) (hk : k < 4) (hj : j ≤ j') (hj' : j' < 16) : (upd M N k j).getD (4 * j' + k) 0 = M.getD (4 * j' + k) 0 := by
  rw [upd_get _ _ _ _ _ (by omega), if_neg (by omega)]
theorem upd_step (M N : List W) (k j : Nat) (hk : k < 4) (_ : j < 16) : (upd M N k j).set (4 * j + k) (N.getD j 0) = upd M N k (j + 1) := by
  refine list_ext_getD 64 (by rw [List.length_set, upd_length]) (upd_length _ _ _ _) fun i hi => ?_
  rw [upd_get _ _ _ _ _ hi, List.getD_eq_getElem?_getD, List.getElem?_set, upd_length]
  by_cases h : 4 * j + k = i
  · have h1 : i % 4 = k ∧ i / 4 < j + 1 := by omega
    have h2 : i / 4 = j := by omega
    rw [if_pos h, if_pos (by omega), if_pos h1, h2]
    rfl
  · rw [if_neg h, ← List.getD_eq_getElem?_getD, upd_get _ _ _ _ _ hi]
    by_cases h1 : i % 4 = k ∧ i / 4 < j
    · rw [if_pos h1, if_pos (by omega)]
    · rw [if_neg h1, if_neg (by omega)]

theorem upd_row (M N : List W) (k j : Nat) (hk : k < 4) (hj : j < 16) : (w32s (upd M N k j)).set (4 * j + k) (.int .u32 (n32 (N.getD j 0))) = w32s (upd M N k (j + 1)) := by
  rw [w32s_set, upd_step M N k j hk hj]
theorem upd_row0 (M N : List W) (k : Nat) (hk : k < 4) : (w32s (upd M N k 0)).set k (.int .u32 (n32 (N.getD 0 0))) = w32s (upd M N k 1) := by
  have h := upd_row M N k 0 hk (by omega)
  rwa [Nat.mul_zero, Nat.zero_add] at h
theorem upd_cell (M N : List W) (k j : Nat) (hk : k < 4) (hj : j < 16) : (w32s (upd M N k j))[4 * j + k]? = some (.int .u32 (n32 (M.getD (4 * j + k) 0))) := by
  rw [w32s_get _ _ (by rw [upd_length]; omega), upd_keep M N k j j hk (Nat.le_refl _) hj]
theorem col_cell (M : List W) (k j : Nat) (hM : M.length = 64) (hk : k < 4) (hj : j < 16) : (w32s M)[4 * j + k]? = some (.int .u32 (n32 ((col M k).getD j 0))) := by
  rw [w32s_get _ _ (by omega), col_get M k j hj]
theorem col_cell0 (M : List W) (k : Nat) (hM : M.length = 64) (hk : k < 4) : (w32s M)[k]? = some (.int .u32 (n32 ((col M k).getD 0 0))) := by
  have h := col_cell M k 0 hM hk (by omega)
  rwa [Nat.mul_zero, Nat.zero_add] at h
theorem list16 (Y : List W) (h : Y.length = 16) : ∃ y0 y1 y2 y3 y4 y5 y6 y7 y8 y9 y10 y11 y12 y13 y14 y15, Y = [y0, y1, y2, y3, y4, y5, y6, y7, y8, y9, y10, y11, y12, y13, y14, y15] := by
  match Y, h with
  | [y0, y1, y2, y3, y4, y5, y6, y7, y8, y9, y10, y11, y12, y13, y14, y15], _ => exact ⟨y0, y1, y2, y3, y4, y5, y6, y7, y8, y9, y10, y11, y12, y13, y14, y15, rfl⟩

section
attribute [local irreducible] qr
theorem at4_0 (x0 x1 x2 x3 x4 x5 x6 x7 x8 x9 x10 x11 x12 x13 x14 x15 : W) : at4 [x0, x1, x2, x3, x4, x5, x6, x7, x8, x9, x10, x11, x12, x13, x14, x15] 0 4 8 12 = [(qr x0 x4 x8 x12).1, x1, x2, x3, (qr x0 x4 x8 x12).2.1, x5, x6, x7, (qr x0 x4 x8 x12).2.2.1, x9, x10, x11, (qr x0 x4 x8 x12).2.2.2, x13, x14, x15] := rfl
theorem at4_1 (x0 x1 x2 x3 x4 x5 x6 x7 x8 x9 x10 x11 x12 x13 x14 x15 : W) : at4 [x0, x1, x2, x3, x4, x5, x6, x7, x8, x9, x10, x11, x12, x13, x14, x15] 1 5 9 13 = [x0, (qr x1 x5 x9 x13).1, x2, x3, x4, (qr x1 x5 x9 x13).2.1, x6, x7, x8, (qr x1 x5 x9 x13).2.2.1, x10, x11, x12, (qr x1 x5 x9 x13).2.2.2, x14, x15] := rfl
theorem at4_2 (x0 x1 x2 x3 x4 x5 x6 x7 x8 x9 x10 x11 x12 x13 x14 x15 : W) : at4 [x0, x1, x2, x3, x4, x5, x6, x7, x8, x9, x10, x11, x12, x13, x14, x15] 2 6 10 14 = [x0, x1, (qr x2 x6 x10 x14).1, x3, x4, x5, (qr x2 x6 x10 x14).2.1, x7, x8, x9, (qr x2 x6 x10 x14).2.2.1, x11, x12, x13, (qr x2 x6 x10 x14).2.2.2, x15] := rfl
theorem at4_3 (x0 x1 x2 x3 x4 x5 x6 x7 x8 x9 x10 x11 x12 x13 x14 x15 : W) : at4 [x0, x1, x2, x3, x4, x5, x6, x7, x8, x9, x10, x11, x12, x13, x14, x15] 3 7 11 15 = [x0, x1, x2, (qr x3 x7 x11 x15).1, x4, x5, x6, (qr x3 x7 x11 x15).2.1, x8, x9, x10, (qr x3 x7 x11 x15).2.2.1, x12, x13, x14, (qr x3 x7 x11 x15).2.2.2] := rfl
theorem at4_4 (x0 x1 x2 x3 x4 x5 x6 x7 x8 x9 x10 x11 x12 x13 x14 x15 : W) : at4 [x0, x1, x2, x3, x4, x5, x6, x7, x8, x9, x10, x11, x12, x13, x14, x15] 0 5 10 15 = [(qr x0 x5 x10 x15).1, x1, x2, x3, x4, (qr x0 x5 x10 x15).2.1, x6, x7, x8, x9, (qr x0 x5 x10 x15).2.2.1, x11, x12, x13, x14, (qr x0 x5 x10 x15).2.2.2] := rfl
theorem at4_5 (x0 x1 x2 x3 x4 x5 x6 x7 x8 x9 x10 x11 x12 x13 x14 x15 : W) : at4 [x0, x1, x2, x3, x4, x5, x6, x7, x8, x9, x10, x11, x12, x13, x14, x15] 1 6 11 12 = [x0, (qr x1 x6 x11 x12).1, x2, x3, x4, x5, (qr x1 x6 x11 x12).2.1, x7, x8, x9, x10, (qr x1 x6 x11 x12).2.2.1, (qr x1 x6 x11 x12).2.2.2, x13, x14, x15] := rfl
theorem at4_6 (x0 x1 x2 x3 x4 x5 x6 x7 x8 x9 x10 x11 x12 x13 x14 x15 : W) : at4 [x0, x1, x2, x3, x4, x5, x6, x7, x8, x9, x10, x11, x12, x13, x14, x15] 2 7 8 13 = [x0, x1, (qr x2 x7 x8 x13).1, x3, x4, x5, x6, (qr x2 x7 x8 x13).2.1, (qr x2 x7 x8 x13).2.2.1, x9, x10, x11, x12, (qr x2 x7 x8 x13).2.2.2, x14, x15] := rfl
theorem at4_7 (x0 x1 x2 x3 x4 x5 x6 x7 x8 x9 x10 x11 x12 x13 x14 x15 : W) : at4 [x0, x1, x2, x3, x4, x5, x6, x7, x8, x9, x10, x11, x12, x13, x14, x15] 3 4 9 14 = [x0, x1, x2, (qr x3 x4 x9 x14).1, (qr x3 x4 x9 x14).2.1, x5, x6, x7, x8, (qr x3 x4 x9 x14).2.2.1, x10, x11, x12, x13, (qr x3 x4 x9 x14).2.2.2, x15] := rfl
end

/-- The first k columns done. -/
def cols (M : List W) (k : Nat) : List W := (List.range 64).map fun i => if i % 4 < k then (fin (col M (i % 4))).getD (i / 4) 0 else M.getD i 0
theorem cols_length (M : List W) (k : Nat) : (cols M k).length = 64 := by simp [cols]
theorem cols_get (M : List W) (k i : Nat) (hi : i < 64) : (cols M k).getD i 0 = if i % 4 < k then (fin (col M (i % 4))).getD (i / 4) 0 else M.getD i 0 := by
  unfold cols
  rw [List.getD_eq_getElem?_getD, List.getElem?_map, List.getElem?_range hi]
  rfl
theorem cols_zero (M : List W) (hM : M.length = 64) : cols M 0 = M :=
  list_ext_getD 64 (cols_length _ _) hM fun i hi => by rw [cols_get _ _ _ hi]; simp
theorem cols_col (M : List W) (k : Nat) (hk : k < 4) : col (cols M k) k = col M k := by
  refine list_ext_getD 16 (col_length _ _) (col_length _ _) fun i hi => ?_
  rw [col_get _ _ _ hi, col_get _ _ _ hi, cols_get _ _ _ (by omega), if_neg (by omega)]
theorem cols_step (M : List W) (k : Nat) (hk : k < 4) : upd (cols M k) (fin (col (cols M k) k)) k 16 = cols M (k + 1) := by
  rw [cols_col M k hk]
  refine list_ext_getD 64 (upd_length _ _ _ _) (cols_length _ _) fun i hi => ?_
  rw [upd_get _ _ _ _ _ hi, cols_get _ _ _ hi, cols_get _ _ _ hi]
  by_cases h : i % 4 = k
  · rw [if_pos ⟨h, by omega⟩, if_pos (by omega), h]
  · rw [if_neg (by omega)]
    by_cases h2 : i % 4 < k
    · rw [if_pos h2, if_pos (by omega)]
    · rw [if_neg h2, if_neg (by omega)]

/-- Words two by two in one number. -/
def pairs (M : List W) : List V := (List.range 32).map fun i => two (M.getD (2 * i) 0) (M.getD (2 * i + 1) 0)
theorem pairs_length (M : List W) : (pairs M).length = 32 := by simp [pairs]
theorem pairs_get (M : List W) (i : Nat) (hi : i < 32) : (pairs M).getD i 0 = two (M.getD (2 * i) 0) (M.getD (2 * i + 1) 0) := by
  unfold pairs
  rw [List.getD_eq_getElem?_getD, List.getElem?_map, List.getElem?_range hi]
  rfl

/-- The four matrices of a seed and a counter, as setup lays them. -/
def setupL (s0 s1 s2 s3 : V) (c : W) : List W := split (pre s0 s1 s2 s3 c)
theorem setupL_length (s0 s1 s2 s3 : V) (c : W) : (setupL s0 s1 s2 s3 c).length = 64 := by unfold setupL; rw [split_length]; rfl
/-- Four blocks. -/
def blockL (s0 s1 s2 s3 : V) (c : W) : List V := pairs (cols (setupL s0 s1 s2 s3 c) 4)

theorem dup_two (x : W) : dup x = two x x := BitVec.or_comm _ _
theorem lo_dup (x : W) : lo (dup x) = x := by rw [dup_two, lo_two]
theorem hi_dup (x : W) : hi (dup x) = x := by rw [dup_two, hi_two]
/-- The counter of column k. -/
def ctr (c : W) : Nat → W
  | 0 => c
  | 1 => c + 1#32
  | 2 => c + 2#32
  | _ => c + 3#32
theorem ctr_eq (c : W) (k : Nat) (hk : k < 4) : ctr c k = c + BitVec.ofNat 32 k := by
  match k, hk with
  | 0, _ => exact (BitVec.add_zero c).symm
  | 1, _ => rfl
  | 2, _ => rfl
  | 3, _ => rfl

theorem lo_K : lo K0 = 0x61707865#32 ∧ hi K0 = 0x61707865#32 ∧ lo K1 = 0x3320646e#32 ∧ hi K1 = 0x3320646e#32 ∧ lo K2 = 0x79622d32#32 ∧ hi K2 = 0x79622d32#32 ∧ lo K3 = 0x6b206574#32 ∧ hi K3 = 0x6b206574#32 ∧ lo 0 = 0 ∧ hi 0 = 0 := by decide

/-- What setup lays: place i is the matrix's of counter i mod 4, at i / 4. -/
theorem setupL_eq (s0 s1 s2 s3 : V) (c : W) : setupL s0 s1 s2 s3 c =
    (List.range 64).map fun i => (mat s0 s1 s2 s3 (ctr c (i % 4))).getD (i / 4) 0 := by
  obtain ⟨e1, e2, e3, e4, e5, e6, e7, e8, e9, e10⟩ := lo_K
  unfold setupL split pre
  simp only [List.flatMap_cons, List.flatMap_nil, List.cons_append, List.nil_append, lo_dup, hi_dup, lo_two, hi_two, e1, e2, e3, e4, e5, e6, e7, e8, e9, e10]
  rfl

theorem setupL_get (s0 s1 s2 s3 : V) (c : W) (i : Nat) (hi : i < 64) : (setupL s0 s1 s2 s3 c).getD i 0 = (mat s0 s1 s2 s3 (ctr c (i % 4))).getD (i / 4) 0 := by
  rw [setupL_eq, List.getD_eq_getElem?_getD, List.getElem?_map, List.getElem?_range hi]
  rfl

theorem setupL_col (s0 s1 s2 s3 : V) (c : W) (k : Nat) (hk : k < 4) : col (setupL s0 s1 s2 s3 c) k = mat s0 s1 s2 s3 (ctr c k) := by
  refine list_ext_getD 16 (col_length _ _) rfl fun j hj => ?_
  rw [col_get _ _ _ hj, setupL_get _ _ _ _ _ _ (by omega), show (4 * j + k) % 4 = k by omega, show (4 * j + k) / 4 = j by omega]

/-- Block k of the four. -/
def blkOf (s0 s1 s2 s3 : V) (c : W) : List W := fin (mat s0 s1 s2 s3 c)

theorem blockL_get (s0 s1 s2 s3 : V) (c : W) (i : Nat) (hi : i < 16) :
    (blockL s0 s1 s2 s3 c).getD (2 * i) 0 = two ((blkOf s0 s1 s2 s3 (ctr c 0)).getD i 0) ((blkOf s0 s1 s2 s3 (ctr c 1)).getD i 0) ∧
    (blockL s0 s1 s2 s3 c).getD (2 * i + 1) 0 = two ((blkOf s0 s1 s2 s3 (ctr c 2)).getD i 0) ((blkOf s0 s1 s2 s3 (ctr c 3)).getD i 0) := by
  have h : ∀ k, k < 4 → (cols (setupL s0 s1 s2 s3 c) 4).getD (4 * i + k) 0 = (blkOf s0 s1 s2 s3 (ctr c k)).getD i 0 := fun k hk => by
    rw [cols_get _ _ _ (by omega), show (4 * i + k) % 4 = k by omega, show (4 * i + k) / 4 = i by omega, if_pos hk, setupL_col _ _ _ _ _ k hk]
    rfl
  constructor
  · unfold blockL
    rw [pairs_get _ _ (by omega), show 2 * (2 * i) = 4 * i + 0 by omega, h 0 (by omega), show 4 * i + 0 + 1 = 4 * i + 1 by omega, h 1 (by omega)]
  · unfold blockL
    rw [pairs_get _ _ (by omega), show 2 * (2 * i + 1) = 4 * i + 2 by omega, h 2 (by omega), show 4 * i + 2 + 1 = 4 * i + 3 by omega, h 3 (by omega)]
theorem blockL_length (s0 s1 s2 s3 : V) (c : W) : (blockL s0 s1 s2 s3 c).length = 32 := pairs_length _
end Go.Proofs.Ytjhpffenlhfilaa.Ch
