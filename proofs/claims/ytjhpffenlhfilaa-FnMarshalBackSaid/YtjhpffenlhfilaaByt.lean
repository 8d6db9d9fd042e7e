/- Bytes as bit vectors: lemmas for the walk; numbers of eight bytes. -/
import Derived.Test.YtjhpffenlhfilaaNum64
import Derived.Test.YtjhpffenlhfilaaBlk
namespace Go.Proofs.Ytjhpffenlhfilaa.Ch
open Go.RowKit Mem

abbrev Y := BitVec 8
def n8 (x : Y) : Int := (x.toNat : Int)
def b8s (l : List Y) : List Value := l.map fun v => .int .u8 (n8 v)
theorem b8s_length (l : List Y) : (b8s l).length = l.length := by simp [b8s]
theorem b8s_append (l m : List Y) : b8s (l ++ m) = b8s l ++ b8s m := by simp [b8s]
theorem b8s_one (l : List Y) : ∀ v ∈ b8s l, v.oneCell' = true := by
  intro v hv
  obtain ⟨n, _, rfl⟩ := List.mem_map.1 hv
  rfl
theorem b8s_get (l : List Y) (i : Nat) (h : i < l.length) : (b8s l)[i]? = some (.int .u8 (n8 (l.getD i 0))) := by simp [b8s, List.getD, h]
theorem n8_up (x : Y) : n64 (x.setWidth 64) = n8 x := by
  unfold n64 n8; rw [BitVec.toNat_setWidth]; have := x.isLt; omega
theorem n64_wrapb (x : Y) : IntKind.u64.wrap (n8 x) = n64 (x.setWidth 64) := by
  rw [n8_up, IntKind.wrap_u64]; unfold n8; have := x.isLt; omega
theorem n8_of64 (x : V) : IntKind.u8.wrap (n64 x) = n8 (x.setWidth 8) := by
  rw [IntKind.wrap_u8]; unfold n64 n8; rw [BitVec.toNat_setWidth]; omega
/-- The same at bytes that have been widened. -/
theorem bo_shl64b (t : TypeId) (x : Y) (yk : IntKind) (y : Int) (h0 : 0 ≤ y) (h1 : y ≤ 64) : binOp .shl t (.int .u64 (n8 x)) (.int yk y) = pure (.int .u64 (n64 (x.setWidth 64 <<< y.toNat))) := by
  rw [← n8_up, bo_shl64 t _ yk y h0 h1]
theorem bo_orb64 (t : TypeId) (x : Y) (y : V) : binOp .or t (.int .u64 (n8 x)) (.int .u64 (n64 y)) = pure (.int .u64 (n64 (x.setWidth 64 ||| y))) := by
  rw [← n8_up, bo_or64]

/-- Byte i of a number, the lowest first. -/
def byteOf (v : V) (i : Nat) : Y := (v >>> (8 * i)).setWidth 8
/-- The number of eight bytes, the lowest first. -/
def le8 (b : Nat → Y) : V :=
  ((((((b 0).setWidth 64 ||| (b 1).setWidth 64 <<< 8) ||| (b 2).setWidth 64 <<< 16) ||| (b 3).setWidth 64 <<< 24) ||| (b 4).setWidth 64 <<< 32) ||| (b 5).setWidth 64 <<< 40) ||| (b 6).setWidth 64 <<< 48 ||| (b 7).setWidth 64 <<< 56
theorem byteOf_bit (v : V) (i k : Nat) (hk : k < 8) : (byteOf v i).getLsbD k = v.getLsbD (8 * i + k) := by
  unfold byteOf
  simp [BitVec.getLsbD_ushiftRight, hk]
theorem up_bit (x : Y) (s i : Nat) (hi : i < 64) : ((x.setWidth 64) <<< s).getLsbD i = (decide (s ≤ i) && decide (i < s + 8) && x.getLsbD (i - s)) := by
  rw [BitVec.getLsbD_shiftLeft, BitVec.getLsbD_setWidth]
  by_cases h1 : s ≤ i
  · by_cases h2 : i < s + 8
    · simp [hi, h1, h2, show i - s < 64 by omega, show ¬ i < s by omega]
    · simp [hi, h1, h2, show i - s < 64 by omega, show ¬ i < s by omega, BitVec.getLsbD_of_ge x (i - s) (by omega)]
  · simp [h1, show i < s by omega]
theorem up_bit0 (x : Y) (i : Nat) (hi : i < 64) : (x.setWidth 64).getLsbD i = (decide (i < 8) && x.getLsbD i) := by
  have := up_bit x 0 i hi
  simpa using this
theorem le8_bit (b : Nat → Y) (q k : Nat) (hq : q < 8) (hk : k < 8) : (le8 b).getLsbD (8 * q + k) = (b q).getLsbD k := by
  unfold le8
  simp only [BitVec.getLsbD_or]
  rw [up_bit0 _ _ (by omega), up_bit _ 8 _ (by omega), up_bit _ 16 _ (by omega), up_bit _ 24 _ (by omega), up_bit _ 32 _ (by omega), up_bit _ 40 _ (by omega), up_bit _ 48 _ (by omega), up_bit _ 56 _ (by omega)]
  match q, hq with
  | 0, _ => simp [hk, show ¬ 8 ≤ k by omega, show ¬ 16 ≤ k by omega, show ¬ 24 ≤ k by omega, show ¬ 32 ≤ k by omega, show ¬ 40 ≤ k by omega, show ¬ 48 ≤ k by omega, show ¬ 56 ≤ k by omega]
  | 1, _ => simp [show 8 * 1 + k < 16 by omega, show ¬ 8 * 1 + k < 8 by omega, show ¬ 16 ≤ 8 * 1 + k by omega, show ¬ 24 ≤ 8 * 1 + k by omega, show ¬ 32 ≤ 8 * 1 + k by omega, show ¬ 40 ≤ 8 * 1 + k by omega, show ¬ 48 ≤ 8 * 1 + k by omega, show ¬ 56 ≤ 8 * 1 + k by omega]
  | 2, _ => simp [show 8 * 2 + k < 24 by omega, show ¬ 8 * 2 + k < 8 by omega, show ¬ 8 * 2 + k < 16 by omega, show ¬ 24 ≤ 8 * 2 + k by omega, show ¬ 32 ≤ 8 * 2 + k by omega, show ¬ 40 ≤ 8 * 2 + k by omega, show ¬ 48 ≤ 8 * 2 + k by omega, show ¬ 56 ≤ 8 * 2 + k by omega]
  | 3, _ => simp [show 8 * 3 + k < 32 by omega, show ¬ 8 * 3 + k < 8 by omega, show ¬ 8 * 3 + k < 16 by omega, show ¬ 8 * 3 + k < 24 by omega, show ¬ 32 ≤ 8 * 3 + k by omega, show ¬ 40 ≤ 8 * 3 + k by omega, show ¬ 48 ≤ 8 * 3 + k by omega, show ¬ 56 ≤ 8 * 3 + k by omega]
  | 4, _ => simp [show 8 * 4 + k < 40 by omega, show ¬ 8 * 4 + k < 8 by omega, show ¬ 8 * 4 + k < 16 by omega, show ¬ 8 * 4 + k < 24 by omega, show ¬ 8 * 4 + k < 32 by omega, show ¬ 40 ≤ 8 * 4 + k by omega, show ¬ 48 ≤ 8 * 4 + k by omega, show ¬ 56 ≤ 8 * 4 + k by omega]
  | 5, _ => simp [show 8 * 5 + k < 48 by omega, show ¬ 8 * 5 + k < 8 by omega, show ¬ 8 * 5 + k < 16 by omega, show ¬ 8 * 5 + k < 24 by omega, show ¬ 8 * 5 + k < 32 by omega, show ¬ 8 * 5 + k < 40 by omega, show ¬ 48 ≤ 8 * 5 + k by omega, show ¬ 56 ≤ 8 * 5 + k by omega]
  | 6, _ => simp [show 8 * 6 + k < 56 by omega, show ¬ 8 * 6 + k < 8 by omega, show ¬ 8 * 6 + k < 16 by omega, show ¬ 8 * 6 + k < 24 by omega, show ¬ 8 * 6 + k < 32 by omega, show ¬ 8 * 6 + k < 40 by omega, show ¬ 8 * 6 + k < 48 by omega, show ¬ 56 ≤ 8 * 6 + k by omega]
  | 7, _ => simp [show 8 * 7 + k < 64 by omega, show ¬ 8 * 7 + k < 8 by omega, show ¬ 8 * 7 + k < 16 by omega, show ¬ 8 * 7 + k < 24 by omega, show ¬ 8 * 7 + k < 32 by omega, show ¬ 8 * 7 + k < 40 by omega, show ¬ 8 * 7 + k < 48 by omega, show ¬ 8 * 7 + k < 56 by omega]
theorem bits64 (q : Nat) (_ : q < 64) : 8 * (q / 8) + q % 8 = q := by omega
theorem le8_byteOf (v : V) : le8 (byteOf v) = v := by
  apply BitVec.eq_of_getLsbD_eq
  intro i hi
  have h := le8_bit (byteOf v) (i / 8) (i % 8) (by omega) (by omega)
  rw [byteOf_bit v _ _ (by omega), bits64 i hi] at h
  exact h
theorem byteOf_le8 (b : Nat → Y) (q : Nat) (hq : q < 8) : byteOf (le8 b) q = b q := by
  apply BitVec.eq_of_getLsbD_eq
  intro k hk
  rw [byteOf_bit _ _ _ hk, le8_bit b q k hq hk]
theorem byteOf_def (v : V) (i : Nat) : (v >>> (8 * i)).setWidth 8 = byteOf v i := rfl

/-- The eight bytes of a number, the lowest first; the highest first. -/
def leB (v : V) : List Y := (List.range 8).map (byteOf v)
def beB (v : V) : List Y := (List.range 8).map fun i => byteOf v (7 - i)
theorem leB_length (v : V) : (leB v).length = 8 := rfl
theorem beB_length (v : V) : (beB v).length = 8 := rfl
theorem leB_get (v : V) (i : Nat) (h : i < 8) : (leB v).getD i 0 = byteOf v i := by
  unfold leB
  rw [List.getD_eq_getElem?_getD, List.getElem?_map, List.getElem?_range h]
  rfl
theorem beB_get (v : V) (i : Nat) (h : i < 8) : (beB v).getD i 0 = byteOf v (7 - i) := by
  unfold beB
  rw [List.getD_eq_getElem?_getD, List.getElem?_map, List.getElem?_range h]
  rfl

/-- Some bytes in the midst of cells written; one more. -/
def mid (L : List Value) (o : Nat) (bs : List Y) (i : Nat) : List Value := L.take o ++ (b8s (bs.take i) ++ L.drop (o + i))
theorem mid_zero (L : List Value) (o : Nat) (bs : List Y) : mid L o bs 0 = L := by
  unfold mid
  simp [b8s]
theorem mid_length (L : List Value) (o : Nat) (bs : List Y) (i : Nat) (hi : i ≤ bs.length) (ho : o + i ≤ L.length) : (mid L o bs i).length = L.length := by
  unfold mid
  simp [b8s]
  omega
theorem mid_step (L : List Value) (o : Nat) (bs : List Y) (i : Nat) (v : Y) (hi : i < bs.length) (ho : o + i < L.length) (hv : bs.getD i 0 = v) :
    (mid L o bs i).set (o + i) (.int .u8 (n8 v)) = mid L o bs (i + 1) := by
  have hlen : (L.take o).length = o := by rw [List.length_take]; omega
  have hlb : (b8s (bs.take i)).length = i := by rw [b8s_length, List.length_take]; omega
  have hv' : bs[i] = v := by rw [← hv]; simp [List.getD, hi]
  unfold mid
  rw [List.set_append_right _ _ (by omega), hlen, List.set_append_right _ _ (by omega), hlb, show o + i - o - i = 0 by omega, List.drop_eq_getElem_cons ho, List.set_cons_zero, List.take_succ_eq_append_getElem hi, b8s_append, hv', List.append_assoc]
  rfl
end Go.Proofs.Ytjhpffenlhfilaa.Ch
