/- The walk of the generator's Marshal. -/
import Derived.Test.YtjhpffenlhfilaaWParts2
import Derived.Test.YtjhpffenlhfilaaWByt
import Derived.Lib.BufferWrite
import Derived.OwnWalk
namespace Go.Proofs.Ytjhpffenlhfilaa.Ch
open Go.RowKit Mem

def hdr : List Y := [99#8, 104#8, 97#8, 99#8, 104#8, 97#8, 56#8, 58#8]
def les (x : G) : Nat → List Y
  | 0 => []
  | 1 => leB x.s0
  | 2 => leB x.s0 ++ leB x.s1
  | 3 => leB x.s0 ++ leB x.s1 ++ leB x.s2
  | _ => leB x.s0 ++ leB x.s1 ++ leB x.s2 ++ leB x.s3
def sd (x : G) : Nat → V
  | 0 => x.s0
  | 1 => x.s1
  | 2 => x.s2
  | _ => x.s3
theorem les_succ (x : G) (k : Nat) (hk : k < 4) : les x k ++ leB (sd x k) = les x (k + 1) := by
  match k, hk with
  | 0, _ => rfl
  | 1, _ => rfl
  | 2, _ => rfl
  | 3, _ => rfl
theorem les_length (x : G) (k : Nat) (hk : k ≤ 4) : (les x k).length = 8 * k := by
  match k, hk with
  | 0, _ => rfl
  | 1, _ => rfl
  | 2, _ => rfl
  | 3, _ => rfl
  | 4, _ => rfl
/-- How many of the seed's numbers are drawn. -/
def G.used (x : G) : Nat := 32 * x.g + x.i
def G.mar (x : G) : List Y := hdr ++ beB (BitVec.ofNat 64 x.used) ++ les x 4
theorem G.mar_length (x : G) : x.mar.length = 48 := rfl
def mcells (P : List Y) (m : Nat) : List Value := b8s P ++ List.replicate m (.int .u8 0)
theorem mcells_length (P : List Y) (m : Nat) : (mcells P m).length = P.length + m := by simp [mcells, b8s]
theorem mcells_zero (P : List Y) : mcells P 0 = b8s P := by simp [mcells]
theorem mid_front (P bs : List Y) (m : Nat) (_ : bs.length ≤ m) : mid (mcells P m) P.length bs bs.length = mcells (P ++ bs) (m - bs.length) := by
  unfold mid mcells
  have hl := b8s_length P
  rw [List.take_append_of_le_length (by omega), List.take_of_length_le (by omega), List.drop_append, List.drop_of_length_le (by omega), List.take_of_length_le (Nat.le_refl _), hl, b8s_append, List.append_assoc]
  congr 2
  simp

theorem n64_small (n : Nat) (h : n < 18446744073709551616) : n64 (BitVec.ofNat 64 n) = (n : Int) := by
  unfold n64
  rw [BitVec.toNat_ofNat]
  omega

section
variable {P : Program} {ops : Array Oper} {rest : List Oper} {o : Oper} {a : Act} {w : World} {Q : Exit → Act → World → Prop}
theorem wpList_copy_str (hgd : o.guard = none) (d : Operand) (s : ByteArray) (dT sT elem : TypeId) (ho : o.op = .call { callee := .builtin .copy, args := #[d, .const (.string s)], argTypes := #[dT, sT] })
    (hu : P.underlying dT = some (.slice elem)) (hs : (P.info? elem).map (·.size) = some 1) (g off dLen dCap : Nat) (hx : a.eval d = .slice (some ⟨g, off, none⟩) dLen dCap) {T : TypeId} {l : List Value} (hB : B w g T l)
    (hle : s.size ≤ dLen) (hfit : off + s.size ≤ l.length)
    (h : ∀ w', B w' g T (l.take off ++ Lib.byteCells s.data.toList ++ l.drop (off + s.size)) → Only g w w' → wpList P ops Q rest (a.put o.dst (goInt s.size)) w') : wpList P ops Q (o :: rest) a w := by
  refine wpList_plain hgd fun K hK => ?_
  have hrun := Lib.run_copy_row_string (P := P) w dT sT o.type elem g off dLen dCap s l.toArray T hu hs hB hle (by simpa using hfit)
  have he : a.eval (.const (.string s)) = .string s := rfl
  unfold Oper.wp execOp
  simp only [ho, resolve, invoke, builtin, Sem.run_bind, Sem.run_pure, Result.andThen_ok, List.map_toArray, List.map_cons, List.map_nil, hx, he, hrun]
  exact hK _ _ (h _ (setRow_heap w g _ _ T _ hB) (Only.setRow g _ w))
end

theorem info5 : (Try.prog.info? 5).map (fun i => (i.zero, i.size, i.bytes)) = some (some (.int .u8 0), 1, 1) := by kernel_rfl
theorem info_parts' {e : TypeId} {z : Value} {s b : Nat} (h : (Try.prog.info? e).map (fun i => (i.zero, i.size, i.bytes)) = some (some z, s, b)) : ∃ i, Try.prog.info? e = some i ∧ i.zero = some z ∧ i.size = s ∧ i.bytes = b := by
  cases hq : Try.prog.info? e with
  | none => rw [hq] at h; cases h
  | some i =>
    rw [hq] at h
    injection h with h
    injection h with h1 h2
    injection h2 with h2 h3
    exact ⟨i, rfl, h1, h2, h3⟩
def hdrS : ByteArray := { data := #[99, 104, 97, 99, 104, 97, 56, 58] }

set_option maxRecDepth 100000 in
set_option maxHeartbeats 4000000 in
theorem marshal_any (g : Nat) (x : G) (hok : x.ok) (w : World) (hB : B w g 68 x.cells) :
    Calls Try.prog 46 #[.pointer (some ⟨g, 0, none⟩)] w fun e w' =>
      ∃ gd, e = .returned (.slice (some ⟨gd, 0, none⟩) 48 48) ∧ w.heap.size ≤ gd ∧ B w' gd 5 (b8s x.mar) ∧ Below w.heap.size w w' := by
  obtain ⟨i0, hi0, hz0, hz1, hz2⟩ := info_parts' info5
  have h30 := Try.underlying30
  have h38 := Try.underlying38
  have hbl := x.bufs_length
  have hseed : (x.cells.drop 32).take 4 = seedL x := st_take_seed hbl _ _ _ _ _ _ _
  have is : (Try.prog.info? 30).map (·.size) = some (seedL x).length := by kernel_rfl
  have hs5 : (Try.prog.info? 5).map (·.size) = some 1 := by kernel_rfl
  have hg4 := hok.1
  have hi32 := hok.2
  have hn32 := x.n_le
  have g36 : x.cells[36]? = some (.int .u32 (x.i : Int)) := st_get36 hbl _ _ _ _ _ _ _
  have g38 : x.cells[38]? = some (.int .u32 ((4 * x.g : Nat) : Int)) := st_get38 hbl _ _ _ _ _ _ _
  have hmar : x.mar = hdr ++ beB (BitVec.ofNat 64 x.used) ++ les x 4 := rfl
  have hus : x.used = 32 * x.g + x.i := rfl
  obtain ⟨c, hc⟩ : ∃ c, c = 4 * x.g := ⟨_, rfl⟩
  obtain ⟨i, hi⟩ : ∃ i, i = x.i := ⟨_, rfl⟩
  obtain ⟨q, hq⟩ : ∃ q, q = x.g := ⟨_, rfl⟩
  obtain ⟨r, hr⟩ : ∃ r, r = 32 * x.g := ⟨_, rfl⟩
  obtain ⟨u, hu⟩ : ∃ u, u = x.used := ⟨_, rfl⟩
  rw [← hi] at g36
  rw [← hc] at g38
  have hul : u < 200 := by omega
  have ww1 : IntKind.u32.wrap ((c : Int) / 4) = (q : Int) := by rw [IntKind.wrap_u32]; omega
  have ww2 : IntKind.u32.wrap ((q : Int) * 32) = (r : Int) := by rw [IntKind.wrap_u32]; omega
  have ww3 : IntKind.u32.wrap ((r : Int) + (i : Int)) = (u : Int) := by rw [IntKind.wrap_u32]; omega
  have hn := n64_small u (by omega)
  rw [← hu] at hmar
  have cP := fun gd w h => bePut_any gd 8 40 40 5 (mcells hdr 40) (BitVec.ofNat 64 u) (by omega) (by rw [mcells_length]; decide) w h
  have hm2 := mid_front hdr (beB (BitVec.ofNat 64 u)) 40 (by rw [beB_length]; omega)
  rw [hn] at cP
  have cP' : ∀ gd w, B w gd 5 (mcells hdr 40) → Calls Try.prog 62 #[.slice (some ⟨gd, 8, none⟩) 40 40, .int .u64 (u : Int)] w fun e w' =>
      e = .returned (.tuple #[]) ∧ B w' gd 5 (mcells (hdr ++ beB (BitVec.ofNat 64 u)) 32) ∧ Only gd w w' := fun gd w h => by
    have := cP gd w h
    rw [show mid (mcells hdr 40) 8 (beB (BitVec.ofNat 64 u)) 8 = mcells (hdr ++ beB (BitVec.ofNat 64 u)) 32 from hm2] at this
    exact this
  have hPl : (hdr ++ beB (BitVec.ofNat 64 u)).length = 16 := rfl
  generalize hdr ++ beB (BitVec.ofNat 64 u) = PH at cP' hPl hmar
  have CP := Lib.hid cP'
  have HPL := Lib.hid hPl
  have HMAR := Lib.hid hmar
  have i1 : (i : Int) ≤ 32 := by omega
  have c1 : (c : Int) ≤ 12 := by omega
  have q1 : (q : Int) ≤ 3 := by omega
  have r1 : (r : Int) ≤ 96 := by omega
  have u1 : (u : Int) < 200 := by omega
  clear hc hi hq hr hu hus hn hm2 cP cP' hPl hmar hul hn32 hi32 hg4
  generalize x.cells = L at hB hseed g36 g38
  go_enter Try.func46, Try.ntmps46
  go_wp2_with (first
    | (at_make; refine wpList_make_B rfl 38 5 _ _ rfl i0 (.int .u8 0) h38 hi0 hz0 hz1 rfl .i64 .i64 48 rfl rfl (by omega) (by omega) ?_; intro gd w2 hgd hlt2 hD2 hb2; (try go_frame); have hB2 := hB.call hb2; have ngd : g ≠ gd := (by have := hB.lt; omega))
    | (refine wpList_copy_str rfl (.tmp 8) hdrS 38 9 5 rfl h38 hs5 gd 0 48 48 rfl hD2 (by decide) (by decide) ?_; intro w3 hD3 hO3; (try go_frame); have hB3 := hB2.only hO3 ngd; have e3 : Below w.heap.size w w3 := hb2.trans (hO3.below _ hgd); have f36 : w3.cell? ⟨g, 36, none⟩ = some (.int .u32 (i : Int)) := (hB3.cell 36).trans g36; have f38 : w3.cell? ⟨g, 38, none⟩ = some (.int .u32 (c : Int)) := (hB3.cell 38).trans g38))
  have e0 : List.take 0 (List.replicate 48 (.int .u8 0)) ++ Lib.byteCells hdrS.data.toList ++ List.drop (0 + hdrS.size) (List.replicate 48 (.int .u8 0)) = mcells hdr 40 := by kernel_rfl
  rw [e0] at hD3
  clear e0 hD2 hb2 hB2 hO3
  have hidx : ∀ (k : Nat), k < 4 → ∀ w, (Instr.index 30 (.agg (seedL x).toArray) (.int .i64 (k : Int))).run Try.prog w = .ok (.int .u64 (n64 (sd x k))) w := fun k hk w => by
    obtain ⟨tj, htj, _, hj1, _⟩ := info_parts' (e := 29) (z := .int .u64 0) (s := 1) (b := 8) (by kernel_rfl)
    have hget : (seedL x).toArray[k]? = some (.int .u64 (n64 (sd x k))) := by
      match k, hk with
      | 0, _ => rfl
      | 1, _ => rfl
      | 2, _ => rfl
      | 3, _ => rfl
    have p := Eq.run_part_int Try.underlying29 (seedL x).toArray k _ hget w
    simp [Instr.index, asIntOf, run_underlying h30, sizeOf, typeInfo, htj, hj1, p]
    intro h
    exact absurd hk (by omega)
  have HIDX := Lib.hid hidx
  clear hidx
  go_quiet (fail)
  have hB4 := hB3.drewN nq
  have hD4 := hD3.drewN nq
  have e4 : Below w.heap.size w (w3.drewN nq) := below_drewN e3 nq
  clear hB3 hD3 e3 f36 f38
  generalize w3.drewN nq = w4 at hB4 hD4 e4 ⊢
  go_wp2_with (first
    | (go_at_call 62; refine (CP.out gd _ hD4).mono ?_; rintro e w5 ⟨rfl, hD5, hO5⟩; have hB5 := hB4.only hO5 ngd; have e5 := e4.trans (hO5.below _ hgd))
    | (refine wpList_load_part rfl 30 _ rfl g 32 rfl hB5 (seedL x) hseed h30 rfl is ?_))
  have hD5' : B w5 gd 5 (mcells (PH ++ les x 0) (32 - 8 * 0)) := by rw [show les x 0 = [] from rfl, List.append_nil]; exact hD5
  clear hD4 hB4 e4 hO5 hD5 hB5
  go_loopw [30] (fun i wr => ∃ k : Nat, k ≤ 4 ∧ i = .int .i64 (k : Int) ∧ B wr gd 5 (mcells (PH ++ les x k) (32 - 8 * k)) ∧ Below w.heap.size w wr) (fun i _ => 4 - (intOf i).toNat)
  case atStart => exact ⟨0, Nat.zero_le _, rfl, hD5', e5⟩
  case round =>
    clear hD5' e5
    obtain ⟨k, hk, rfl, hD, hbel⟩ := hrel
    by_cases hk4 : k < 4
    · have hk' : (k : Int) < 4 := by omega
      have hix := HIDX.out k hk4
      have hls := les_succ x k hk4
      have hpl : (PH ++ les x k).length = 16 + 8 * k := by rw [List.length_append, HPL.out, les_length x k hk]
      have cL := fun v (w : World) (h : B w gd 5 (mcells (PH ++ les x k) (32 - 8 * k))) => lePut_any gd (16 + 8 * k) (48 - (16 + 8 * k)) (48 - (16 + 8 * k)) 5 (mcells (PH ++ les x k) (32 - 8 * k)) v (by omega) (by rw [mcells_length, hpl]; omega) w h
      have hmf := fun v => mid_front (PH ++ les x k) (leB v) (32 - 8 * k) (by rw [leB_length]; omega)
      have cL' : ∀ w, B w gd 5 (mcells (PH ++ les x k) (32 - 8 * k)) → Calls Try.prog 63 #[.slice (some ⟨gd, 16 + 8 * k, none⟩) (48 - (16 + 8 * k)) (48 - (16 + 8 * k)), .int .u64 (n64 (sd x k))] w fun e w' =>
          e = .returned (.tuple #[]) ∧ B w' gd 5 (mcells (PH ++ les x (k + 1)) (32 - 8 * (k + 1))) ∧ Only gd w w' := fun w h => by
        have h1 := cL (sd x k) w h
        have h2 := hmf (sd x k)
        rw [hpl, leB_length, List.append_assoc, hls, show 32 - 8 * k - 8 = 32 - 8 * (k + 1) by omega] at h2
        rw [h2] at h1
        exact h1
      clear cL hmf hls hpl
      generalize mcells (PH ++ les x k) (32 - 8 * k) = C at hD cL'
      have CL := Lib.hid cL'
      clear cL'
      obtain ⟨p, hp⟩ : ∃ p, p = 16 + 8 * k := ⟨_, rfl⟩
      rw [← hp] at CL
      have p1 : (2 + (k : Int)) * 8 = (p : Int) := by omega
      have p2 : (p : Int) < 48 := by omega
      have p3 : p < 48 := by omega
      have p4 : (0 : Int) ≤ (p : Int) := by omega
      have p5 : (p : Int) ≤ 48 := by omega
      have p6 : IntKind.i64.wrap (p : Int) = (p : Int) := by rw [IntKind.wrap_i64]; omega
      have p7 : p ≤ 48 := by omega
      have p8 : ¬ 48 = p := by omega
      have HP := Lib.hid hp
      clear hp
      go_wp2_with (go_at_call 63; refine (CL.out _ hD).mono ?_; rintro e w6 ⟨rfl, hD6, hO6⟩; have e6 := hbel.trans (hO6.below _ hgd))
      go_roundw
      case rel => exact ⟨k + 1, by omega, by go_num, hD6, e6⟩
      case measure => simp [intOf]; omega
    · have hk' : (4 : Int) ≤ (k : Int) := by omega
      have hk4' : k = 4 := by omega
      rw [hk4', show 32 - 8 * 4 = 0 from rfl, mcells_zero, ← HMAR.out] at hD
      clear hk4'
      go_wp2
      go_ret
      exact ⟨gd, rfl, hgd, hD, hbel⟩
end Go.Proofs.Ytjhpffenlhfilaa.Ch
