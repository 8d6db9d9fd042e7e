/- How the model's operations on 32-bit and 64-bit numbers stand to bit vectors: lemmas for the walk. -/
import Derived.Test.YtjhpffenlhfilaaProg
import Derived.WalkKit
import Derived.WalkSpells
import Derived.WalkLawsBesides
import Derived.Test.YtjhpffenlhfilaaQr
namespace Go.Proofs.Ytjhpffenlhfilaa.Ch
open Go.RowKit

/-- A word as the number that a cell holds. -/
def n32 (x : W) : Int := (x.toNat : Int)

theorem n32_bd (x : W) : 0 ≤ n32 x ∧ n32 x < 4294967296 := by
  unfold n32; have := x.isLt; omega

theorem n32_inj {x y : W} (h : n32 x = n32 y) : x = y := by
  unfold n32 at h; exact BitVec.eq_of_toNat_eq (by omega)

theorem n32_wrap_add (x y : W) : IntKind.u32.wrap (n32 x + n32 y) = n32 (x + y) := by
  rw [IntKind.wrap_u32]; unfold n32; rw [BitVec.toNat_add]; omega
theorem n32_wrap_sub (x y : W) : IntKind.u32.wrap (n32 x - n32 y) = n32 (x - y) := by
  rw [IntKind.wrap_u32]; unfold n32; rw [BitVec.toNat_sub]; have := x.isLt; have := y.isLt; omega
theorem n32_xor (x y : W) : bits .xor .u32 (n32 x) (n32 y) = n32 (x ^^^ y) := by
  unfold bits n32
  simp only [IntKind.bits]
  have h : ∀ z : W, BitVec.ofInt 32 (z.toNat : Int) = z := fun z => by rw [BitVec.ofInt_natCast, BitVec.ofNat_toNat, BitVec.setWidth_eq]
  rw [h, h, IntKind.wrap_u32]
  have e : ((x ^^^ y).toNat : Int) % 4294967296 = ((x ^^^ y).toNat : Int) := by have := (x ^^^ y).isLt; omega
  exact e
theorem n32_or (x y : W) : bits .or .u32 (n32 x) (n32 y) = n32 (x ||| y) := by
  unfold bits n32
  simp only [IntKind.bits]
  have h : ∀ z : W, BitVec.ofInt 32 (z.toNat : Int) = z := fun z => by rw [BitVec.ofInt_natCast, BitVec.ofNat_toNat, BitVec.setWidth_eq]
  rw [h, h, IntKind.wrap_u32]
  have e : ((x ||| y).toNat : Int) % 4294967296 = ((x ||| y).toNat : Int) := by have := (x ||| y).isLt; omega
  exact e
theorem n32_shl (x : W) (n : Nat) : IntKind.u32.wrap (n32 x * 2 ^ n) = n32 (x <<< n) := by
  rw [IntKind.wrap_u32]; unfold n32
  rw [BitVec.toNat_shiftLeft, Nat.shiftLeft_eq]
  have : ((x.toNat * 2 ^ n : Nat) : Int) = (x.toNat : Int) * 2 ^ n := by push_cast; rfl
  rw [← this]; omega
theorem n32_shr (x : W) (n : Nat) : n32 x / 2 ^ n = n32 (x >>> n) := by
  unfold n32
  rw [BitVec.toNat_ushiftRight, Nat.shiftRight_eq_div_pow]
  push_cast; rfl

/-! The operations themselves, at words. -/
theorem bo_add (t : TypeId) (x y : W) : binOp .add t (.int .u32 (n32 x)) (.int .u32 (n32 y)) = pure (.int .u32 (n32 (x + y))) := by
  rw [binOp_add, Op.intArith, n32_wrap_add]
theorem bo_sub (t : TypeId) (x y : W) : binOp .sub t (.int .u32 (n32 x)) (.int .u32 (n32 y)) = pure (.int .u32 (n32 (x - y))) := by
  rw [binOp_sub, Op.intArith, n32_wrap_sub]
theorem bo_xor (t : TypeId) (x y : W) : binOp .xor t (.int .u32 (n32 x)) (.int .u32 (n32 y)) = pure (.int .u32 (n32 (x ^^^ y))) := by
  rw [binOp_xor, intBits_xor, n32_xor]
theorem bo_or (t : TypeId) (x y : W) : binOp .or t (.int .u32 (n32 x)) (.int .u32 (n32 y)) = pure (.int .u32 (n32 (x ||| y))) := by
  rw [binOp_or, intBits_or, n32_or]
theorem bo_shl (t : TypeId) (x : W) (yk : IntKind) (y : Int) (h0 : 0 ≤ y) (h1 : y ≤ 32) : binOp .shl t (.int .u32 (n32 x)) (.int yk y) = pure (.int .u32 (n32 (x <<< y.toNat))) := by
  rw [binOp_shl, shift_shl_u32 yk _ _ h0 h1, n32_shl]
theorem bo_shr (t : TypeId) (x : W) (yk : IntKind) (y : Int) (h0 : 0 ≤ y) (h1 : y ≤ 32) : binOp .shr t (.int .u32 (n32 x)) (.int yk y) = pure (.int .u32 (n32 (x >>> y.toNat))) := by
  rw [binOp_shr, shift_shr_u32 yk _ _ h0 h1, n32_shr]

theorem results_tmp4 {fn : Func} {t u v x : Tmp} (h : fn.results = #[.tmp t, .tmp u, .tmp v, .tmp x]) (tmps : Array Value) (P : Program) (w : World) :
    (results fn tmps).run P w = .ok (.tuple #[tmps.getD t undef, tmps.getD u undef, tmps.getD v undef, tmps.getD x undef]) w := by simp [results, h]

end Go.Proofs.Ytjhpffenlhfilaa.Ch
