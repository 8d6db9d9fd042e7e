/- The words of the walks over RC4: how the permutation and the states lie in memory; closed facts on the types. -/
import Derived.Test.YtcmokpacocgolaaRows
import Derived.Test.YtcmokpacocgolaaBlk
import Derived.Test.YtcmokpacocgolaaPlain
import Derived.Test.YtcmokpacocgolaaEq
import Derived.Lib.Hide
import Derived.Outline
import Derived.BigRegion
import Derived.Deep.Draws
import Derived.Deep.QuietTactic
import Derived.BigQuiet
import Derived.KernelRfl
namespace Go.Proofs.Ytcmokpacocgolaa.Rc
open Go.RowKit Mem

/-- 256 numbers as the cells of a [256]uint32. -/
def u32s (S : List Nat) : List Value := S.map fun (n : Nat) => Value.int .u32 (n : Int)
/-- The cells of the package's Cipher. -/
def cip (c : C) : List Value := u32s c.S ++ [.int .u8 (c.i : Int), .int .u8 (c.j : Int)]
/-- The cells of the reference's Cipher. -/
def spc (c : C) : List Value := u32s c.S ++ [.int .i64 (c.i : Int), .int .i64 (c.j : Int)]
def zeros : List Nat := List.replicate 256 0
def C0 : C := ⟨zeros, 0, 0⟩
attribute [irreducible] zeros

theorem u32s_length (S : List Nat) : (u32s S).length = S.length := by simp [u32s]
theorem u32s_get (S : List Nat) (i : Nat) (h : i < S.length) : (u32s S)[i]? = some (.int .u32 (S.getD i 0 : Nat)) := by simp [u32s, List.getD, h]
theorem u32s_set (S : List Nat) (i n : Nat) : (u32s S).set i (.int .u32 (n : Int)) = u32s (S.set i n) := by simp [u32s, List.map_set]
theorem u32s_one (S : List Nat) : ∀ v ∈ u32s S, v.oneCell' = true := by
  intro v hv
  obtain ⟨n, _, rfl⟩ := List.mem_map.1 hv
  rfl
theorem cip_length (c : C) (h : c.S.length = 256) : (cip c).length = 258 := by simp [cip, u32s_length, h]
theorem cip_getI (c : C) (h : c.S.length = 256) : (cip c)[256]? = some (.int .u8 (c.i : Int)) := by
  rw [cip, List.getElem?_append_right (by rw [u32s_length]; omega), u32s_length, h]; rfl
theorem cip_getJ (c : C) (h : c.S.length = 256) : (cip c)[257]? = some (.int .u8 (c.j : Int)) := by
  rw [cip, List.getElem?_append_right (by rw [u32s_length]; omega), u32s_length, h]; rfl
theorem cip_setI (c : C) (h : c.S.length = 256) (n : Nat) : (cip c).set 256 (.int .u8 (n : Int)) = cip { c with i := n } := by
  rw [cip, List.set_append_right _ _ (by rw [u32s_length]; omega), u32s_length, h]; rfl
theorem cip_setJ (c : C) (h : c.S.length = 256) (n : Nat) : (cip c).set 257 (.int .u8 (n : Int)) = cip { c with j := n } := by
  rw [cip, List.set_append_right _ _ (by rw [u32s_length]; omega), u32s_length, h]; rfl
theorem cip_setIJ (c : C) (i j : Nat) (h : c.S.length = 256) : ((cip ⟨c.S, i, j⟩).set 256 (.int .u8 (c.i : Int))).set 257 (.int .u8 (c.j : Int)) = cip c := by
  rw [cip_setI ⟨c.S, i, j⟩ h c.i, cip_setJ ⟨c.S, c.i, j⟩ h c.j]
theorem spc_length (c : C) (h : c.S.length = 256) : (spc c).length = 258 := by simp [spc, u32s_length, h]
theorem cip_get (c : C) (i : Nat) (hi : i < c.S.length) : (cip c)[i]? = some (.int .u32 (c.S.getD i 0 : Nat)) := by
  rw [cip, List.getElem?_append_left (by rw [u32s_length]; exact hi), u32s_get _ _ hi]
theorem spc_get (c : C) (i : Nat) (hi : i < c.S.length) : (spc c)[i]? = some (.int .u32 (c.S.getD i 0 : Nat)) := by
  rw [spc, List.getElem?_append_left (by rw [u32s_length]; exact hi), u32s_get _ _ hi]
theorem cip_set (c : C) (i n : Nat) (hi : i < c.S.length) : (cip c).set i (.int .u32 (n : Int)) = cip { c with S := c.S.set i n } := by
  rw [cip, List.set_append_left _ _ (by rw [u32s_length]; exact hi), u32s_set]; rfl

theorem spc_one (c : C) : ∀ v ∈ spc c, v.oneCell' = true := by
  intro v hv
  rcases List.mem_append.1 hv with h | h
  · exact u32s_one _ v h
  · simp at h; rcases h with rfl | rfl <;> rfl
theorem spc_setS (c : C) (i n : Nat) (hi : i < c.S.length) : (spc c).set i (.int .u32 (n : Int)) = spc { c with S := c.S.set i n } := by
  rw [spc, List.set_append_left _ _ (by rw [u32s_length]; exact hi), u32s_set]; rfl
theorem spc_getI (c : C) (h : c.S.length = 256) : (spc c)[256]? = some (.int .i64 (c.i : Int)) := by
  rw [spc, List.getElem?_append_right (by rw [u32s_length]; omega), u32s_length, h]; rfl
theorem spc_getJ (c : C) (h : c.S.length = 256) : (spc c)[257]? = some (.int .i64 (c.j : Int)) := by
  rw [spc, List.getElem?_append_right (by rw [u32s_length]; omega), u32s_length, h]; rfl
theorem spc_setI (c : C) (h : c.S.length = 256) (n : Nat) : (spc c).set 256 (.int .i64 (n : Int)) = spc { c with i := n } := by
  rw [spc, List.set_append_right _ _ (by rw [u32s_length]; omega), u32s_length, h]; rfl
theorem spc_setJ (c : C) (h : c.S.length = 256) (n : Nat) : (spc c).set 257 (.int .i64 (n : Int)) = spc { c with j := n } := by
  rw [spc, List.set_append_right _ _ (by rw [u32s_length]; omega), u32s_length, h]; rfl
theorem spc_part (c : C) : ((spc c).drop 0).take (u32s c.S).length = u32s c.S := by
  rw [List.drop_zero, spc, List.take_left']; rfl
theorem spc_put (c : C) (S : List Nat) (h : c.S.length = 256) (hS : S.length = 256) : (spc c).take 0 ++ u32s S ++ (spc c).drop (0 + (u32s S).length) = spc { c with S := S } := by
  rw [List.take_zero, List.nil_append, Nat.zero_add, u32s_length, hS]
  have : (spc c).drop 256 = [.int .i64 (c.i : Int), .int .i64 (c.j : Int)] := by
    rw [spc, List.drop_left' (by rw [u32s_length, h])]
  rw [this]; rfl

theorem zero24 : (Try.prog.info? 24).map (fun i => (i.zero, i.size)) = some (some (.agg (u32s (List.replicate 256 0)).toArray), 256) := by kernel_rfl
theorem zero59 : (Try.prog.info? 59).map (fun i => (i.zero, i.size)) = some (some (.agg (cip ⟨List.replicate 256 0, 0, 0⟩).toArray), 258) := by kernel_rfl
theorem zero35 : (Try.prog.info? 35).map (fun i => (i.zero, i.size)) = some (some (.agg (spc ⟨List.replicate 256 0, 0, 0⟩).toArray), 258) := by kernel_rfl

/-- A type's row of the table: its zero value and its size. -/
theorem row_of {P : Program} {t : TypeId} {z : Value} {s : Nat} (h : (P.info? t).map (fun i => (i.zero, i.size)) = some (some z, s)) : ∃ ti, P.info? t = some ti ∧ ti.zero = some z ∧ ti.size = s := by
  cases hi : P.info? t with
  | none => rw [hi] at h; cases h
  | some ti =>
    rw [hi] at h
    simp only [Option.map_some, Option.some.injEq, Prod.mk.injEq] at h
    exact ⟨ti, rfl, h.1, h.2⟩
theorem size_of {P : Program} {t : TypeId} {z : Value} {s : Nat} (h : (P.info? t).map (fun i => (i.zero, i.size)) = some (some z, s)) : (P.info? t).map (·.size) = some s := by
  obtain ⟨ti, h1, _, h3⟩ := row_of h
  simp [h1, h3]

theorem row24 : ∃ ti, Try.prog.info? 24 = some ti ∧ ti.zero = some (.agg (u32s zeros).toArray) ∧ ti.size = 256 := by unfold zeros; exact row_of zero24
theorem row59 : ∃ ti, Try.prog.info? 59 = some ti ∧ ti.zero = some (.agg (cip C0).toArray) ∧ ti.size = 258 := by unfold C0 zeros; exact row_of zero59
theorem row35 : ∃ ti, Try.prog.info? 35 = some ti ∧ ti.zero = some (.agg (spc C0).toArray) ∧ ti.size = 258 := by unfold C0 zeros; exact row_of zero35
theorem size24 : (Try.prog.info? 24).map (·.size) = some 256 := size_of zero24
theorem size59 : (Try.prog.info? 59).map (·.size) = some 258 := size_of zero59
theorem size35 : (Try.prog.info? 35).map (·.size) = some 258 := size_of zero35

/-- The zero Cipher of the reference, as a literal without parts. -/
theorem build35 (w : World) : (Instr.build 35 #[]).run Try.prog w = .ok (.agg (spc C0).toArray) w := by unfold C0 zeros; kernel_rfl

/-- The first k numbers of the identity, zeros behind them. -/
def fill (k : Nat) : List Nat := (List.range 256).map fun n => if n < k then n else 0
theorem fill_length (k : Nat) : (fill k).length = 256 := by simp [fill]
theorem fill_zero : fill 0 = zeros := by
  unfold fill zeros
  apply List.ext_getElem?
  intro i
  by_cases h : i < 256
  · rw [List.getElem?_map, List.getElem?_range h, List.getElem?_replicate, if_pos h]; rfl
  · rw [List.getElem?_map, List.getElem?_replicate, if_neg h, List.getElem?_eq_none (by simpa using h)]; rfl
theorem fill_all : fill 256 = List.range 256 := by
  unfold fill
  apply List.ext_getElem?
  intro i
  by_cases h : i < 256
  · rw [List.getElem?_map, List.getElem?_range h]; simp [h]
  · rw [List.getElem?_map, List.getElem?_eq_none (by simpa using h)]; rfl
theorem fill_succ (k : Nat) : (fill k).set k k = fill (k + 1) := by
  apply List.ext_getElem?
  intro i
  rw [List.getElem?_set]
  by_cases h : i < 256
  · by_cases hk : k = i
    · subst hk; simp [fill, h]
    · have : (i < k ↔ i < k + 1) := by omega
      simp [fill, hk, h, this]
  · by_cases hk : k = i
    · subst hk; simp [fill, h]
    · simp [fill, hk, h]

/-- A slice of bytes: what the walks are told of it. -/
def Bytes (w : World) (b : Nat) (A : Option Addr) (n : Nat) (vs : List Nat) : Prop := Reads w b 1 A n (vs.map fun (v : Nat) => Value.int .u8 (v : Int))

theorem Bytes.length {w : World} {b : Nat} {A : Option Addr} {n : Nat} {vs : List Nat} (h : Bytes w b A n vs) : vs.length = n := by
  have := h.1; simpa using this
theorem Bytes.at_ {w : World} {b : Nat} {A : Option Addr} {n : Nat} {vs : List Nat} (h : Bytes w b A n vs) (hn : 0 < n) :
    ∃ ad, A = some ad ∧ ad.block < b ∧ ∀ k, k < n → w.cell? (ad.add k) = some (.int .u8 (vs.getD k 0 : Nat)) := by
  obtain ⟨ad, rfl, hb, hc⟩ := h.2 hn
  refine ⟨ad, rfl, hb, fun k hk => hc k _ ?_⟩
  have hl := h.length
  simp [List.getD, show k < vs.length by omega]
theorem Bytes.call {w w' : World} {b : Nat} {A : Option Addr} {n : Nat} {vs : List Nat} (h : Bytes w b A n vs) (hb : Below b w w') : Bytes w' b A n vs := Reads.below h hb

/-- Bytes as the cells of a row. -/
def u8s (vs : List Nat) : List Value := vs.map fun (v : Nat) => Value.int .u8 (v : Int)
theorem u8s_length (vs : List Nat) : (u8s vs).length = vs.length := by simp [u8s]

theorem u8s_one (vs : List Nat) : ∀ v ∈ u8s vs, v.oneCell' = true := by
  intro v hv
  obtain ⟨n, _, rfl⟩ := List.mem_map.1 hv
  rfl
theorem bytes_step (vs : List Nat) (l : List Value) (q : Nat) (hq : q < vs.length) (hl : vs.length ≤ l.length) :
    (u8s (vs.take q) ++ l.drop q).set q (.int .u8 (vs.getD q 0 : Nat)) = u8s (vs.take (q + 1)) ++ l.drop (q + 1) := by
  apply List.ext_getElem?
  intro i
  rw [List.getElem?_set]
  have hlen : (u8s (vs.take q) ++ l.drop q).length = l.length := by simp [u8s]; omega
  have e1 : (u8s (vs.take q)).length = q := by simp [u8s]; omega
  have e2 : (u8s (vs.take (q + 1))).length = q + 1 := by simp [u8s]; omega
  by_cases h : q = i
  · subst h
    rw [if_pos rfl, if_pos (by rw [hlen]; omega), List.getElem?_append_left (by omega)]
    simp [u8s, List.getD, hq]
  · rw [if_neg h]
    by_cases hi : i < q
    · rw [List.getElem?_append_left (by omega), List.getElem?_append_left (by omega)]
      simp [u8s, hi, show i < q + 1 by omega]
    · rw [List.getElem?_append_right (by omega), List.getElem?_append_right (by omega), e1, e2, List.getElem?_drop, List.getElem?_drop]
      congr 1
      omega

theorem u8s_take_succ (l : List Nat) (k : Nat) (hk : k < l.length) : u8s (l.take (k + 1)) = u8s (l.take k) ++ [.int .u8 (l.getD k 0 : Nat)] := by
  have e : l.getD k 0 = l[k] := by simp [List.getD, hk]
  rw [List.take_succ_eq_append_getElem hk, e]
  unfold u8s
  rw [List.map_append]
  rfl

theorem bxor8 (v o : Nat) (hv : v < 256) (ho : o < 256) : bits .xor .u8 (v : Int) (o : Int) = ((v ^^^ o : Nat) : Int) := by
  have hx : v ^^^ o < 256 := Nat.xor_lt_two_pow (n := 8) hv ho
  have h1 : ∀ z : Nat, z < 256 → (BitVec.ofInt 8 (z : Int)).toNat = z := fun z hz => by rw [BitVec.ofInt_natCast, BitVec.toNat_ofNat]; exact Nat.mod_eq_of_lt (by omega)
  show IntKind.u8.wrap ((BitVec.ofInt 8 (v : Int) ^^^ BitVec.ofInt 8 (o : Int)).toNat : Int) = _
  rw [BitVec.toNat_xor, h1 v hv, h1 o ho, IntKind.wrap_u8]
  omega

/-- A whole Cipher read, written: kept closed to the walk's rewriting, so that one equation on the run serves. -/
def loadSpc (p : Value) : Sem Value := Instr.loadAt 35 p
def storeSpc (p v : Value) : Sem Unit := Instr.storeAt 35 p v
theorem loadSpc_eq (p : Value) : Instr.loadAt 35 p = loadSpc p := rfl
theorem storeSpc_eq (p v : Value) : Instr.storeAt 35 p v = storeSpc p v := rfl

theorem zeros_length : zeros.length = 256 := by unfold zeros; exact List.length_replicate

end Go.Proofs.Ytcmokpacocgolaa.Rc
