/- Plain mathematics of RC4: the key schedule, the stream, and what follows of them. No Go in sight. -/
namespace Go.Proofs.Ytcmokpacocgolaa.Rc

/-- Two places of a list exchanged, as the assignment 's[i], s[j] = s[j], s[i]' does it. -/
def swap (S : List Nat) (i j : Nat) : List Nat := (S.set i (S.getD j 0)).set j (S.getD i 0)

/-- The second index of the key schedule. -/
def ksaJ (key S : List Nat) (i j : Nat) : Nat := (j + S.getD i 0 + key.getD (i % key.length) 0) % 256

/-- The key schedule behind i rounds: the permutation and the second index. -/
def ksa (key : List Nat) : Nat → List Nat × Nat
  | 0 => (List.range 256, 0)
  | i + 1 => (swap (ksa key i).1 i (ksaJ key (ksa key i).1 i (ksa key i).2), ksaJ key (ksa key i).1 i (ksa key i).2)

theorem ksa_zero (key : List Nat) : ksa key 0 = (List.range 256, 0) := rfl
theorem ksa_succ (key : List Nat) (i : Nat) : ksa key (i + 1) = (swap (ksa key i).1 i (ksaJ key (ksa key i).1 i (ksa key i).2), ksaJ key (ksa key i).1 i (ksa key i).2) := rfl
attribute [irreducible] ksa

/-- A state: the permutation and the two indexes. -/
structure C where
  S : List Nat
  i : Nat
  j : Nat

/-- All that a state keeps: 256 numbers below 256, indexes below 256. -/
structure Ok (c : C) : Prop where
  len : c.S.length = 256
  lt : ∀ x ∈ c.S, x < 256
  i : c.i < 256
  j : c.j < 256

def keyed (key : List Nat) : C := ⟨(ksa key 256).1, 0, 0⟩

def nxtI (c : C) : Nat := (c.i + 1) % 256
def nxtJ (c : C) : Nat := (c.j + c.S.getD (nxtI c) 0) % 256
def nxt (c : C) : C := ⟨swap c.S (nxtI c) (nxtJ c), nxtI c, nxtJ c⟩
/-- The byte that a state tells (the state behind the step). -/
def outB (c : C) : Nat := c.S.getD ((c.S.getD c.i 0 + c.S.getD c.j 0) % 256) 0

def after (c : C) : Nat → C
  | 0 => c
  | n + 1 => nxt (after c n)

/-- Bytes mixed with the stream of a state. -/
def mix (c : C) : List Nat → List Nat
  | [] => []
  | v :: vs => (v ^^^ outB (nxt c)) :: mix (nxt c) vs

theorem swap_length (S : List Nat) (i j : Nat) : (swap S i j).length = S.length := by simp [swap]

theorem getD_mem_or {S : List Nat} {i : Nat} : S.getD i 0 ∈ S ∨ S.getD i 0 = 0 := by
  by_cases h : i < S.length
  · left; simp [List.getD, h]
  · right; simp [List.getD, List.getElem?_eq_none (Nat.le_of_not_lt h)]

theorem getD_lt {S : List Nat} (h : ∀ x ∈ S, x < 256) (i : Nat) : S.getD i 0 < 256 := by
  rcases getD_mem_or (S := S) (i := i) with m | m
  · exact h _ m
  · omega

theorem swap_lt {S : List Nat} (h : ∀ x ∈ S, x < 256) (i j : Nat) : ∀ x ∈ swap S i j, x < 256 := by
  intro x hx
  unfold swap at hx
  rcases List.mem_or_eq_of_mem_set hx with hx | rfl
  · rcases List.mem_or_eq_of_mem_set hx with hx | rfl
    · exact h x hx
    · exact getD_lt h j
  · exact getD_lt h i

theorem ksa_len (key : List Nat) (n : Nat) : (ksa key n).1.length = 256 := by
  induction n with
  | zero => simp [ksa_zero]
  | succ n ih => simp [ksa_succ, swap_length, ih]

theorem ksa_lt (key : List Nat) (n : Nat) : ∀ x ∈ (ksa key n).1, x < 256 := by
  induction n with
  | zero => intro x hx; simpa [ksa_zero] using hx
  | succ n ih => rw [ksa_succ]; exact swap_lt ih _ _

theorem ksaJ_lt (key S : List Nat) (i j : Nat) : ksaJ key S i j < 256 := Nat.mod_lt _ (by omega)

theorem ksa_j (key : List Nat) (n : Nat) : (ksa key n).2 < 256 := by
  cases n with
  | zero => simp [ksa_zero]
  | succ n => rw [ksa_succ]; exact ksaJ_lt _ _ _ _

theorem keyed_ok (key : List Nat) : Ok (keyed key) := ⟨ksa_len _ _, ksa_lt _ _, by simp [keyed], by simp [keyed]⟩

theorem nxt_ok {c : C} (h : Ok c) : Ok (nxt c) :=
  ⟨by simp [nxt, swap_length, h.len], swap_lt h.lt _ _, Nat.mod_lt _ (by omega), Nat.mod_lt _ (by omega)⟩

theorem after_ok {c : C} (h : Ok c) (n : Nat) : Ok (after c n) := by
  induction n with
  | zero => exact h
  | succ n ih => exact nxt_ok ih

theorem outB_lt {c : C} (h : Ok c) : outB c < 256 := getD_lt h.lt _

theorem after_nxt (c : C) (n : Nat) : after (nxt c) n = nxt (after c n) := by
  induction n with
  | zero => rfl
  | succ n ih => simp [after, ih]

theorem mix_length (c : C) (vs : List Nat) : (mix c vs).length = vs.length := by
  induction vs generalizing c with
  | nil => rfl
  | cons v vs ih => simp [mix, ih]

theorem mix_append (c : C) (a b : List Nat) : mix c (a ++ b) = mix c a ++ mix (after c a.length) b := by
  induction a generalizing c with
  | nil => simp [mix, after]
  | cons v vs ih => simp [mix, ih, after, after_nxt]

/-- The byte at place k of what is mixed. -/
theorem mix_getElem? (c : C) (vs : List Nat) (k : Nat) : (mix c vs)[k]? = (vs[k]?).map fun v => v ^^^ outB (after c (k + 1)) := by
  induction vs generalizing c k with
  | nil => simp [mix]
  | cons v vs ih =>
    cases k with
    | zero => simp [mix, after]
    | succ k => simp [mix, ih, after, after_nxt]

theorem mix_getD (c : C) (vs : List Nat) (k : Nat) (h : k < vs.length) : (mix c vs).getD k 0 = vs.getD k 0 ^^^ outB (after c (k + 1)) := by
  simp [List.getD, mix_getElem?, h]

theorem mix_lt {c : C} (h : Ok c) {vs : List Nat} (hv : ∀ v ∈ vs, v < 256) : ∀ v ∈ mix c vs, v < 256 := by
  induction vs generalizing c with
  | nil => simp [mix]
  | cons v vs ih =>
    intro x hx
    simp only [mix, List.mem_cons] at hx
    rcases hx with rfl | hx
    · exact Nat.xor_lt_two_pow (n := 8) (hv v (by simp)) (outB_lt (nxt_ok h))
    · exact ih (nxt_ok h) (fun y hy => hv y (by simp [hy])) x hx

/-- What is mixed twice is what it was. -/
theorem mix_mix (c : C) (vs : List Nat) : mix c (mix c vs) = vs := by
  induction vs generalizing c with
  | nil => rfl
  | cons v vs ih => simp [mix, ih, Nat.xor_assoc]

/-- The beginning of what is mixed is what the beginning is mixed to. -/
theorem mix_take (c : C) (vs : List Nat) (n : Nat) : (mix c vs).take n = mix c (vs.take n) := by
  apply List.ext_getElem?
  intro k
  by_cases h : k < n
  · simp [h, mix_getElem?]
  · simp [List.getElem?_take, h, mix_length]; omega

/-- A key that is another one twice makes the same state. -/
theorem ksa_twice (key : List Nat) (n : Nat) : ksa (key ++ key) n = ksa key n := by
  have hk : ∀ i, (key ++ key).getD (i % (key ++ key).length) 0 = key.getD (i % key.length) 0 := by
    intro i
    by_cases h0 : key.length = 0
    · have : key = [] := List.eq_nil_of_length_eq_zero h0
      subst this; simp
    · have hm : i % (key ++ key).length < 2 * key.length := by
        rw [List.length_append]; have := Nat.mod_lt i (show key.length + key.length > 0 by omega); omega
      have hmm : i % (key ++ key).length % key.length = i % key.length := by
        rw [List.length_append, show key.length + key.length = key.length * 2 by omega, Nat.mod_mul_right_mod]
      simp only [List.getD]
      congr 1
      by_cases hl : i % (key ++ key).length < key.length
      · rw [List.getElem?_append_left hl, ← hmm, Nat.mod_eq_of_lt hl]
      · rw [List.getElem?_append_right (by omega), ← hmm]
        congr 1
        generalize i % (key ++ key).length = m at *
        rw [Nat.mod_eq_sub_mod (by omega), Nat.mod_eq_of_lt (by omega)]
  induction n with
  | zero => rw [ksa_zero, ksa_zero]
  | succ n ih => simp only [ksa_succ, ih, ksaJ, hk]

theorem keyed_twice (key : List Nat) : keyed (key ++ key) = keyed key := by simp [keyed, ksa_twice]

/-- The two indexes behind n steps: the first counts them. -/
theorem after_i (key : List Nat) (n : Nat) : (after (keyed key) n).i = n % 256 := by
  induction n with
  | zero => rfl
  | succ n ih => simp only [after, nxt, nxtI, ih]; omega

theorem swap_get_i (S : List Nat) (i j : Nat) (hi : i < S.length) (hj : j < S.length) : (swap S i j).getD i 0 = S.getD j 0 := by
  unfold swap
  by_cases h : i = j
  · subst h; simp [List.getD, hi]
  · simp [List.getD, hi, Ne.symm h]

theorem swap_get_j (S : List Nat) (i j : Nat) (hj : j < S.length) : (swap S i j).getD j 0 = S.getD i 0 := by
  unfold swap
  simp [List.getD, hj]

/-- The byte that is told behind a step, by the two numbers that were exchanged. -/
theorem outB_nxt {c : C} (h : Ok c) : outB (nxt c) = (swap c.S (nxtI c) (nxtJ c)).getD ((c.S.getD (nxtI c) 0 + c.S.getD (nxtJ c) 0) % 256) 0 := by
  have hi : nxtI c < c.S.length := by rw [h.len]; exact Nat.mod_lt _ (by omega)
  have hj : nxtJ c < c.S.length := by rw [h.len]; exact Nat.mod_lt _ (by omega)
  unfold outB nxt
  simp only
  rw [swap_get_i _ _ _ hi hj, swap_get_j _ _ _ hj, Nat.add_comm]

theorem perm_swap (S : List Nat) (i j : Nat) (hi : i < S.length) (hj : j < S.length) : (swap S i j).Perm S := by
  have h : swap S i j = (S.set i (S[j])).set j (S[i]) := by simp [swap, List.getD, hi, hj]
  rw [h]
  exact List.set_set_perm hi hj

theorem ksa_perm (key : List Nat) (n : Nat) (hn : n ≤ 256) : (ksa key n).1.Perm (List.range 256) := by
  induction n with
  | zero => rw [ksa_zero]
  | succ n ih =>
    rw [ksa_succ]
    refine (perm_swap _ _ _ ?_ ?_).trans (ih (by omega))
    · rw [ksa_len]; omega
    · rw [ksa_len]; exact ksaJ_lt _ _ _ _

theorem after_perm {c : C} (h : Ok c) (hp : c.S.Perm (List.range 256)) (n : Nat) : (after c n).S.Perm (List.range 256) := by
  induction n with
  | zero => exact hp
  | succ n ih =>
    have ho := after_ok h n
    refine (perm_swap _ _ _ ?_ ?_).trans ih
    · rw [ho.len]; exact Nat.mod_lt _ (by omega)
    · rw [ho.len]; exact Nat.mod_lt _ (by omega)

end Go.Proofs.Ytcmokpacocgolaa.Rc
