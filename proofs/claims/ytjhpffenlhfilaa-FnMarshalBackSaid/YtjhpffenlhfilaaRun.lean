/- Plain mathematics: steps of a state, what each tells; a state that is marshaled and unmarshaled. -/
import Derived.Test.YtjhpffenlhfilaaSeq
import Derived.Test.YtjhpffenlhfilaaWUnm2
namespace Go.Proofs.Ytjhpffenlhfilaa.Ch
open Go.RowKit Mem

def G.stepG (x : G) (s : Int) : G := if s = 0 then (if x.i < x.n then x.adv else x) else if s = 1 then x.refill else if s = 2 then x.reseed else if s = 4 then x.full else x
def G.stepV (x : G) (s : Int) : V := if s = 0 ∧ x.i < x.n then x.val else 0
def G.stepK (x : G) (s : Int) : Bool := if s = 0 then decide (x.i < x.n) else decide (s = 1 ∨ s = 2 ∨ s = 3 ∨ s = 4)
def G.run (x : G) : List Int → G
  | [] => x
  | s :: r => (x.stepG s).run r
def ansOf (x : G) (s : Int) (d : Value) : List Value := [.bool (x.stepK s), .int .u64 (n64 (x.stepV s)), d]
def anss (x : G) : List Int → List Value → List Value
  | s :: r, d :: ds => ansOf x s d ++ anss (x.stepG s) r ds
  | _, _ => []
theorem G.stepG_ok {x : G} (h : x.ok) (s : Int) : (x.stepG s).ok := by
  unfold G.stepG
  split
  · split
    · exact G.adv_ok h (by assumption)
    · exact h
  · split
    · exact G.refill_ok h
    · split
      · exact G.reseed_ok x
      · split
        · exact G.full_ok h
        · exact h
theorem G.run_ok {x : G} (h : x.ok) (l : List Int) : (x.run l).ok := by
  induction l generalizing x with
  | nil => exact h
  | cons s r ih => exact ih (G.stepG_ok h s)
theorem G.run_append (x : G) (l m : List Int) : x.run (l ++ m) = (x.run l).run m := by
  induction l generalizing x with
  | nil => rfl
  | cons s r ih => exact ih _
theorem anss_append (x : G) (l m : List Int) (ds es : List Value) (h : ds.length = l.length) : anss x (l ++ m) (ds ++ es) = anss x l ds ++ anss (x.run l) m es := by
  induction l generalizing x ds with
  | nil =>
    obtain rfl : ds = [] := List.eq_nil_of_length_eq_zero (by simpa using h)
    rfl
  | cons s r ih =>
    match ds, h with
    | d :: ds, h =>
      show ansOf x s d ++ anss (x.stepG s) (r ++ m) (ds ++ es) = ansOf x s d ++ anss (x.stepG s) r ds ++ anss ((x.stepG s).run r) m es
      rw [ih (x.stepG s) ds (by simpa using h), List.append_assoc]
theorem anss_length (x : G) (l : List Int) (ds : List Value) (h : ds.length = l.length) : (anss x l ds).length = 3 * l.length := by
  induction l generalizing x ds with
  | nil =>
    obtain rfl : ds = [] := List.eq_nil_of_length_eq_zero (by simpa using h)
    rfl
  | cons s r ih =>
    match ds, h with
    | d :: ds, h =>
      show (ansOf x s d ++ anss (x.stepG s) r ds).length = _
      rw [List.length_append, ih (x.stepG s) ds (by simpa using h)]
      show 3 + _ = 3 * (r.length + 1)
      omega

theorem le8_congr {f g : Nat → Y} (h : ∀ i, i < 8 → f i = g i) : le8 f = le8 g := by
  unfold le8
  rw [h 0 (by omega), h 1 (by omega), h 2 (by omega), h 3 (by omega), h 4 (by omega), h 5 (by omega), h 6 (by omega), h 7 (by omega)]
/-- The bytes of a state, read again. -/
theorem mar_get (x : G) : (∀ i, i < 8 → x.mar.getD (8 + i) 0 = byteOf (BitVec.ofNat 64 x.used) (7 - i)) ∧ (∀ i, i < 8 → x.mar.getD (16 + i) 0 = byteOf x.s0 i) ∧ (∀ i, i < 8 → x.mar.getD (24 + i) 0 = byteOf x.s1 i) ∧
    (∀ i, i < 8 → x.mar.getD (32 + i) 0 = byteOf x.s2 i) ∧ (∀ i, i < 8 → x.mar.getD (40 + i) 0 = byteOf x.s3 i) := by
  refine ⟨?_, ?_, ?_, ?_, ?_⟩ <;> intro i hi <;> match i, hi with
    | 0, _ => rfl
    | 1, _ => rfl
    | 2, _ => rfl
    | 3, _ => rfl
    | 4, _ => rfl
    | 5, _ => rfl
    | 6, _ => rfl
    | 7, _ => rfl
theorem mar_used (x : G) (h : x.ok) : usedB x.mar = x.used := by
  have hn := x.n_le
  have hg := h.1
  have hi := h.2
  have hu : x.used < 200 := by unfold G.used; omega
  unfold usedB
  have e : (le8 fun i => x.mar.getD (8 + (7 - i)) 0) = BitVec.ofNat 64 x.used := by
    rw [← le8_byteOf (BitVec.ofNat 64 x.used)]
    refine le8_congr fun i hi => ?_
    rw [(mar_get x).1 (7 - i) (by omega), show 7 - (7 - i) = i by omega]
  rw [e, BitVec.toNat_ofNat]
  omega
theorem mar_word (x : G) : word x.mar 16 = x.s0 ∧ word x.mar 24 = x.s1 ∧ word x.mar 32 = x.s2 ∧ word x.mar 40 = x.s3 := by
  obtain ⟨_, h0, h1, h2, h3⟩ := mar_get x
  refine ⟨?_, ?_, ?_, ?_⟩
  · exact (le8_congr h0).trans (le8_byteOf _)
  · exact (le8_congr h1).trans (le8_byteOf _)
  · exact (le8_congr h2).trans (le8_byteOf _)
  · exact (le8_congr h3).trans (le8_byteOf _)
theorem used_le {x : G} (h : x.ok) : x.used ≤ 124 := by
  have hg := h.1
  have hi := h.2
  unfold G.n at hi
  unfold G.used
  split at hi <;> omega
theorem mar_valid (x : G) (h : x.ok) : validB x.mar := ⟨x.mar_length, rfl, by rw [mar_used x h]; exact used_le h⟩
/-- A state that is marshaled and unmarshaled. -/
theorem ofB_mar (x : G) (h : x.ok) : ofB x.mar = x.full := by
  obtain ⟨e0, e1, e2, e3⟩ := mar_word x
  unfold ofB
  rw [e0, e1, e2, e3, mar_used x h]
  have hg := h.1
  have hi := h.2
  have hn := x.n_le
  unfold G.used G.full
  by_cases h1 : x.i = 32 ∧ x.g < 3
  · rw [if_pos h1]
    unfold G.refill
    rw [if_pos h1.2, show (32 * x.g + x.i) / 32 = x.g + 1 by omega, show (32 * x.g + x.i) % 32 = 0 by omega]
  · rw [if_neg h1]
    have hi32 : x.i < 32 := by
      unfold G.n at hi
      split at hi <;> omega
    rw [show (32 * x.g + x.i) / 32 = x.g by omega, show (32 * x.g + x.i) % 32 = x.i by omega]
/-- Bytes that are a state are the ones that it is marshaled as. -/
theorem mar_ofB (bs : List Y) (h : validB bs) : (ofB bs).mar = bs := by
  obtain ⟨hl, hh, hu⟩ := h
  have hus : (ofB bs).used = usedB bs := by show 32 * (usedB bs / 32) + usedB bs % 32 = _; omega
  have hU : BitVec.ofNat 64 (ofB bs).used = le8 fun i => bs.getD (8 + (7 - i)) 0 := by
    rw [hus]; exact BitVec.ofNat_toNat _ _ |>.trans (by rw [BitVec.setWidth_eq])
  obtain ⟨m1, m2, m3, m4, m5⟩ := mar_get (ofB bs)
  refine List.ext_getElem (by rw [G.mar_length, hl]) fun j h1 h2 => ?_
  have e : ∀ (l : List Y) (h : j < l.length), l[j] = l.getD j 0 := fun l h => by simp [List.getD, h]
  rw [e _ h1, e _ h2]
  have hj : j < 48 := by omega
  by_cases c1 : j < 8
  · have a1 : (ofB bs).mar.take 8 = hdr := rfl
    have a2 : (ofB bs).mar.getD j 0 = ((ofB bs).mar.take 8).getD j 0 := by simp [List.getD, c1]
    have a3 : bs.getD j 0 = (bs.take 8).getD j 0 := by simp [List.getD, c1]
    rw [a2, a3, a1, hh]
  · by_cases c2 : j < 16
    · have := m1 (j - 8) (by omega)
      rw [show 8 + (j - 8) = j by omega, hU] at this
      rw [this, byteOf_le8 _ _ (by omega), show 8 + (7 - (7 - (j - 8))) = j by omega]
    · by_cases c3 : j < 24
      · have := m2 (j - 16) (by omega)
        rw [show 16 + (j - 16) = j by omega] at this
        rw [this]
        exact (byteOf_le8 (fun i => bs.getD (16 + i) 0) (j - 16) (by omega)).trans (by rw [show 16 + (j - 16) = j by omega])
      · by_cases c4 : j < 32
        · have := m3 (j - 24) (by omega)
          rw [show 24 + (j - 24) = j by omega] at this
          rw [this]
          exact (byteOf_le8 (fun i => bs.getD (24 + i) 0) (j - 24) (by omega)).trans (by rw [show 24 + (j - 24) = j by omega])
        · by_cases c5 : j < 40
          · have := m4 (j - 32) (by omega)
            rw [show 32 + (j - 32) = j by omega] at this
            rw [this]
            exact (byteOf_le8 (fun i => bs.getD (32 + i) 0) (j - 32) (by omega)).trans (by rw [show 32 + (j - 32) = j by omega])
          · have := m5 (j - 40) (by omega)
            rw [show 40 + (j - 40) = j by omega] at this
            rw [this]
            exact (byteOf_le8 (fun i => bs.getD (40 + i) 0) (j - 40) (by omega)).trans (by rw [show 40 + (j - 40) = j by omega])
end Go.Proofs.Ytjhpffenlhfilaa.Ch
