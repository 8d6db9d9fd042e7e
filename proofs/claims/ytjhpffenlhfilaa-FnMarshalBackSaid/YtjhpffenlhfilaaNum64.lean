/- 64-bit numbers as bit vectors: lemmas for the walk. -/
import Derived.Test.YtjhpffenlhfilaaNum
namespace Go.Proofs.Ytjhpffenlhfilaa.Ch
open Go.RowKit

abbrev V := BitVec 64
def n64 (x : V) : Int := (x.toNat : Int)
def lo (x : V) : W := x.setWidth 32
def hi (x : V) : W := (x >>> 32).setWidth 32
/-- Two words in one number, the lower one first. -/
def two (a b : W) : V := a.setWidth 64 ||| (b.setWidth 64 <<< 32)

theorem n64_bd (x : V) : 0 ≤ n64 x ∧ n64 x < 18446744073709551616 := by
  unfold n64; have := x.isLt; omega
theorem n64_inj {x y : V} (h : n64 x = n64 y) : x = y := by
  unfold n64 at h; exact BitVec.eq_of_toNat_eq (by omega)
theorem n64_lo (x : V) : n64 x % 4294967296 = n32 (lo x) := by
  unfold n64 n32 lo; rw [BitVec.toNat_setWidth]; omega
theorem n64_wrap32 (x : V) : IntKind.u32.wrap (n64 x) = n32 (lo x) := by rw [IntKind.wrap_u32, n64_lo]
theorem n32_up (x : W) : n64 (x.setWidth 64) = n32 x := by
  unfold n64 n32; rw [BitVec.toNat_setWidth]; have := x.isLt; omega
theorem n64_shr (x : V) (n : Nat) : n64 x / 2 ^ n = n64 (x >>> n) := by
  unfold n64
  rw [BitVec.toNat_ushiftRight, Nat.shiftRight_eq_div_pow]
  push_cast; rfl
theorem n64_shl (x : V) (n : Nat) : IntKind.u64.wrap (n64 x * 2 ^ n) = n64 (x <<< n) := by
  rw [IntKind.wrap_u64]; unfold n64
  rw [BitVec.toNat_shiftLeft, Nat.shiftLeft_eq]
  have : ((x.toNat * 2 ^ n : Nat) : Int) = (x.toNat : Int) * 2 ^ n := by push_cast; rfl
  rw [← this]; omega
theorem n64_or (x y : V) : bits .or .u64 (n64 x) (n64 y) = n64 (x ||| y) := by
  unfold bits n64
  simp only [IntKind.bits]
  have h : ∀ z : V, BitVec.ofInt 64 (z.toNat : Int) = z := fun z => by rw [BitVec.ofInt_natCast, BitVec.ofNat_toNat, BitVec.setWidth_eq]
  rw [h, h, IntKind.wrap_u64]
  have e : ((x ||| y).toNat : Int) % 18446744073709551616 = ((x ||| y).toNat : Int) := by have := (x ||| y).isLt; omega
  exact e
theorem lo_two (a b : W) : lo (two a b) = a := by
  unfold lo two
  apply BitVec.eq_of_getLsbD_eq
  intro i hi
  have h64 : i < 64 := by omega
  simp only [BitVec.getLsbD_setWidth, BitVec.getLsbD_or, BitVec.getLsbD_shiftLeft, hi, h64, decide_true, Bool.true_and, Bool.not_true, Bool.false_and, Bool.or_false]
theorem hi_two (a b : W) : hi (two a b) = b := by
  unfold hi two
  apply BitVec.eq_of_getLsbD_eq
  intro i hi
  have h64 : 32 + i < 64 := by omega
  have h0 : ¬ (32 + i < 32) := by omega
  have h1 : 32 + i - 32 = i := by omega
  have h2 : i < 64 := by omega
  simp only [BitVec.getLsbD_setWidth, BitVec.getLsbD_ushiftRight, BitVec.getLsbD_or, BitVec.getLsbD_shiftLeft, hi, h64, h0, h1, h2, decide_true, decide_false, Bool.not_false, Bool.true_and, BitVec.getLsbD_of_ge a (32 + i) (by omega), Bool.and_false, Bool.false_or]
theorem two_lo_hi (x : V) : two (lo x) (hi x) = x := by
  unfold lo hi two
  apply BitVec.eq_of_getLsbD_eq
  intro i hi
  simp only [BitVec.getLsbD_or, BitVec.getLsbD_setWidth, BitVec.getLsbD_shiftLeft, BitVec.getLsbD_ushiftRight, hi, decide_true, Bool.true_and]
  by_cases h : i < 32
  · simp [h]
  · have h1 : 32 + (i - 32) = i := by omega
    have h2 : i - 32 < 64 := by omega
    have h3 : i - 32 < 32 := by omega
    simp [h, h1, h2, h3]

/-! The operations themselves. -/
theorem bo_shl64 (t : TypeId) (x : V) (yk : IntKind) (y : Int) (h0 : 0 ≤ y) (h1 : y ≤ 64) : binOp .shl t (.int .u64 (n64 x)) (.int yk y) = pure (.int .u64 (n64 (x <<< y.toNat))) := by
  rw [binOp_shl, shift_shl_u64 yk _ _ h0 h1, n64_shl]
theorem bo_shr64 (t : TypeId) (x : V) (yk : IntKind) (y : Int) (h0 : 0 ≤ y) (h1 : y ≤ 64) : binOp .shr t (.int .u64 (n64 x)) (.int yk y) = pure (.int .u64 (n64 (x >>> y.toNat))) := by
  rw [binOp_shr, shift_shr_u64 yk _ _ h0 h1, n64_shr]
theorem bo_or64 (t : TypeId) (x y : V) : binOp .or t (.int .u64 (n64 x)) (.int .u64 (n64 y)) = pure (.int .u64 (n64 (x ||| y))) := by
  rw [binOp_or, intBits_or, n64_or]
/-- The same at words that have been widened. -/
theorem bo_shl64w (t : TypeId) (x : W) (yk : IntKind) (y : Int) (h0 : 0 ≤ y) (h1 : y ≤ 64) : binOp .shl t (.int .u64 (n32 x)) (.int yk y) = pure (.int .u64 (n64 (x.setWidth 64 <<< y.toNat))) := by
  rw [← n32_up, bo_shl64 t _ yk y h0 h1]
theorem bo_or64w (t : TypeId) (x : V) (y : W) : binOp .or t (.int .u64 (n64 x)) (.int .u64 (n32 y)) = pure (.int .u64 (n64 (x ||| y.setWidth 64))) := by
  rw [← n32_up, bo_or64]
theorem bo_orw64 (t : TypeId) (x : W) (y : V) : binOp .or t (.int .u64 (n32 x)) (.int .u64 (n64 y)) = pure (.int .u64 (n64 (x.setWidth 64 ||| y))) := by
  rw [← n32_up, bo_or64]

theorem n64_wrapw (x : W) : IntKind.u64.wrap (n32 x) = n64 (x.setWidth 64) := by
  rw [n32_up, IntKind.wrap_u64]; have := n32_bd x; omega
theorem n32_wrap_self (x : W) : IntKind.u32.wrap (n32 x) = n32 x := by rw [IntKind.wrap_u32]; have := n32_bd x; omega
theorem n32_wrap_add1 (x : W) : IntKind.u32.wrap (n32 x + 1) = n32 (x + 1#32) := n32_wrap_add x 1#32
theorem n32_wrap_add2 (x : W) : IntKind.u32.wrap (n32 x + 2) = n32 (x + 2#32) := n32_wrap_add x 2#32
theorem n32_wrap_add3 (x : W) : IntKind.u32.wrap (n32 x + 3) = n32 (x + 3#32) := n32_wrap_add x 3#32

/-- Numbers as the cells of a row. -/
def u64s (l : List V) : List Value := l.map fun v => .int .u64 (n64 v)
def w32s (l : List W) : List Value := l.map fun v => .int .u32 (n32 v)
theorem u64s_length (l : List V) : (u64s l).length = l.length := by simp [u64s]
theorem w32s_length (l : List W) : (w32s l).length = l.length := by simp [w32s]
theorem u64s_one (l : List V) : ∀ v ∈ u64s l, v.oneCell' = true := by
  intro v hv
  obtain ⟨n, _, rfl⟩ := List.mem_map.1 hv
  rfl
theorem w32s_one (l : List W) : ∀ v ∈ w32s l, v.oneCell' = true := by
  intro v hv
  obtain ⟨n, _, rfl⟩ := List.mem_map.1 hv
  rfl
theorem u64s_get (l : List V) (i : Nat) (h : i < l.length) : (u64s l)[i]? = some (.int .u64 (n64 (l.getD i 0))) := by simp [u64s, List.getD, h]
theorem w32s_get (l : List W) (i : Nat) (h : i < l.length) : (w32s l)[i]? = some (.int .u32 (n32 (l.getD i 0))) := by simp [w32s, List.getD, h]
theorem u64s_set (l : List V) (i : Nat) (v : V) : (u64s l).set i (.int .u64 (n64 v)) = u64s (l.set i v) := by simp [u64s, List.map_set]
theorem w32s_set (l : List W) (i : Nat) (v : W) : (w32s l).set i (.int .u32 (n32 v)) = w32s (l.set i v) := by simp [w32s, List.map_set]
theorem u64s_append (l m : List V) : u64s (l ++ m) = u64s l ++ u64s m := by simp [u64s]
theorem w32s_append (l m : List W) : w32s (l ++ m) = w32s l ++ w32s m := by simp [w32s]
end Go.Proofs.Ytjhpffenlhfilaa.Ch
