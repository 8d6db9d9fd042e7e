/- The walk of the law on mixing in pieces; a slice of slices of bytes opened. -/
import Derived.Test.YtcmokpacocgolaaLStream
import Derived.Test.YtcmokpacocgolaaWPieces
import Derived.Deep.Matrix
namespace Go.Proofs.Ytcmokpacocgolaa
open Go.ChangeShapes Go.WideShapes Go.ChangeAt Go.RowKit Mem Rc

/-- A slice of slices of integers that came in. -/
structure Came2 (k : IntKind) (w : World) (A : Option Addr) (len cap : Nat) (zs : List (Hdr × List Int)) : Prop where
  top : Reads w w.heap.size 1 A len (zs.map fun z => z.1.val)
  len_le : len ≤ cap
  cap_le : cap ≤ maxLen
  row : ∀ z ∈ zs, Came k w z.1.A z.1.n z.1.c z.2

section
variable {H : Type} {enc : TypeId × Value → H} {P : Program} {w : World} {held : Bool}
theorem came2_of {t e q : TypeId} {k : IntKind} {fuel : Nat} {A : Option Addr} {len cap : Nat} {x : DataW H × List MemPlace} (ht : P.underlying t = some (.slice e)) (he : P.underlying e = some (.slice q)) (hq : P.underlying q = some (.int k)) (ce : P.cellsOf e = 1) (cq : P.cellsOf q = 1)
    (h : DataW.trod enc P w 0 (fun _ => true) held fuel t [.slice A len cap] = some x) :
    ∃ zs, Came2 k w A len cap zs := by
  rcases Deep.open_int_rows ht he hq ce cq h with ⟨hcs, _⟩ | ⟨a, l, c, Ar, L, C, Z, hcs, _, hl, hm, _, hrow⟩
  · simp at hcs
    obtain ⟨rfl, rfl, rfl⟩ := hcs
    exact ⟨[], ⟨Reads.none_, Nat.le_refl _, by unfold maxLen; omega, fun z hz => by cases hz⟩⟩
  · simp at hcs
    obtain ⟨rfl, rfl, rfl⟩ := hcs
    refine ⟨(List.range len).map fun r => (⟨Ar r, L r, C r⟩, (Z r).take (L r)), ⟨⟨by simp, fun hn => ⟨a, rfl, ?_, ?_⟩⟩, hl, hm, ?_⟩⟩
    · have h0 := (hrow 0 (by omega)).1
      have := World.block_lt_of_cell? _ _ h0
      simpa [Addr.add] using this
    · intro j u hu
      have hj : j < len := by
        have := (List.getElem?_eq_some_iff.1 hu).1
        simp at this; omega
      rw [List.getElem?_map, List.getElem?_map, List.getElem?_range hj] at hu
      injection hu with hu
      subst hu
      exact (hrow j (by omega)).1
    · intro z hz
      obtain ⟨r, hr, rfl⟩ := List.mem_map.1 hz
      have hr' : r < len := List.mem_range.1 hr
      obtain ⟨_, r1, r2, r3, r4, r5, r6⟩ := hrow r (by omega)
      refine ⟨⟨by simp; omega, fun hn => ?_⟩, r1, r2, fun n hn => r4 n (List.mem_of_mem_take hn), r5⟩
      match hA : Ar r with
      | none => exact absurd (r5 hA) (by have : 0 < L r := hn; omega)
      | some a' =>
        obtain ⟨_, hc⟩ := r6 a' hA
        refine ⟨a', rfl, ?_, fun j u hu => ?_⟩
        · have h0 := hc 0 (by have : 0 < L r := hn; omega)
          have := World.block_lt_of_cell? _ _ h0
          simpa [Addr.add] using this
        · have hj : j < L r := by
            have := (List.getElem?_eq_some_iff.1 hu).1
            simp at this; omega
          have hj' : j < (Z r).length := by omega
          have e1 : (((Z r).take (L r)).map (Value.int k))[j]? = some (.int k (Z r)[j]) := by simp [hj, hj']
          rw [e1] at hu
          injection hu with hu
          subst hu
          rw [hc j (by omega)]
          simp [List.getD, hj']
end

theorem came_bytes_at {w : World} {A : Option Addr} {len cap : Nat} {zs : List Int} (h : Came .u8 w A len cap zs) : Bytes w w.heap.size A len (zs.map Int.toNat) ∧ ∀ v ∈ zs.map Int.toNat, v < 256 := by
  have hb : ∀ z ∈ zs, 0 ≤ z ∧ z ≤ 255 := fun z hz => by
    have := h.wf z hz
    simp [Lit.wf, IntKind.min, IntKind.max, IntKind.signed, IntKind.bits] at this
    omega
  refine ⟨?_, ?_⟩
  · have e : (zs.map Int.toNat).map (fun (v : Nat) => Value.int .u8 (v : Int)) = zs.map (Value.int .u8) := by
      rw [List.map_map]
      apply List.map_congr_left
      intro z hz
      have := hb z hz
      show Value.int .u8 ((z.toNat : Nat) : Int) = _
      rw [Int.toNat_of_nonneg this.1]
    show Reads w w.heap.size 1 A len _
    rw [e]
    exact h.reads
  · intro v hv
    obtain ⟨z, hz, rfl⟩ := List.mem_map.1 hv
    have := hb z hz
    omega

theorem came_rows {w : World} {A : Option Addr} {len cap : Nat} {zs : List (Hdr × List Int)} (h : Came2 .u8 w A len cap zs) :
    ∃ L, Rc.Rows w w.heap.size A len L ∧ ∀ x ∈ L, ∀ v ∈ x.2, v < 256 := by
  refine ⟨zs.map fun z => (z.1, z.2.map Int.toNat), ⟨?_, ?_⟩, ?_⟩
  · rw [List.map_map]; exact h.top
  · intro x hx
    obtain ⟨z, hz, rfl⟩ := List.mem_map.1 hx
    have hc := h.row z hz
    refine ⟨(came_bytes_at hc).1, ?_⟩
    have h1 := hc.len_le
    have h2 := hc.cap_le
    unfold maxLen at h2
    show z.1.n ≤ _
    omega
  · intro x hx
    obtain ⟨z, hz, rfl⟩ := List.mem_map.1 hx
    exact (came_bytes_at (h.row z hz)).2

set_option maxRecDepth 100000 in
set_option maxHeartbeats 2000000 in
theorem walk_FnStreamPieces (A0 : Option Addr) (len0 cap0 : Nat) (z0 : List Int) (A1 : Option Addr) (len1 cap1 : Nat) (z1 : List (Hdr × List Int)) (W : World) (c0 : Came .u8 W A0 len0 cap0 z0) (c1 : Came2 .u8 W A1 len1 cap1 z1) :
    Calls Try.prog 12 #[.slice A0 len0 cap0, .slice A1 len1 cap1] W fun e w' => e = .returned (.bool true) ∧ Below W.heap.size W w' := by
  have m0 := c0.len_le
  have m0' := c0.cap_le
  have m1 := c1.len_le
  have m1' := c1.cap_le
  unfold maxLen at m0' m1'
  obtain ⟨key, hk, hkv⟩ := came_bytes c0
  obtain ⟨L, hr, hrv⟩ := came_rows c1
  clear c0 c1
  by_cases h1 : 2147483647 < len0
  · have h1' : (2147483647 : Int) < (len0 : Int) := by omega
    go_enter Try.func12, Try.ntmps12
    go_wp2
    go_ret
    exact ⟨rfl, Below.refl _ _⟩
  have h1' : (len0 : Int) ≤ 2147483647 := by omega
  go_enter Try.func12, Try.ntmps12
  go_wp2_with fail
  refine (fits_any A1 len1 cap1 L _ _ hr (by omega)).mono ?_
  rintro e w0 ⟨t, rfl, rfl, ht⟩
  cases t with
  | false =>
    go_wp2
    go_ret
    exact ⟨rfl, Below.refl _ _⟩
  | true =>
  obtain ⟨hn1, hL1⟩ := ht rfl
  clear ht
  go_wp2_with fail
  refine (few_any A1 len1 cap1 L _ _ hr hn1 hL1).mono ?_
  rintro e w0 ⟨t, rfl, rfl, ht⟩
  cases t with
  | false =>
    go_wp2
    go_ret
    exact ⟨rfl, Below.refl _ _⟩
  | true =>
  obtain ⟨hn2, hL2⟩ := ht rfl
  clear ht
  have J := joined_any A1 len1 cap1 L _ W hr (Nat.le_refl _) hn2 hL2
  have hfv : ∀ v ∈ L.flatMap (·.2), v < 256 := fun v hv => by
    obtain ⟨x, hx, hvx⟩ := List.mem_flatMap.1 hv
    exact hrv x hx v hvx
  generalize hF : L.flatMap (·.2) = F at J hL2 hfv
  generalize hN : F.length = N at J hL2
  have HF := Lib.hid hF
  have HN := Lib.hid hN
  clear hF hN
  go_wp2_with fail
  refine J.mono ?_
  rintro e w1 ⟨A2, k2, rfl, ho1, hb1⟩
  clear J
  have hk1 := hk.call hb1
  have hr1 := hr.call hb1
  rcases key_cases len0 with hw | ⟨hw1, hw2⟩
  · go_wp2_with (first
      | (go_at_call 15; refine (stream_wrong A0 len0 cap0 key A2 _ k2 _ _ hk1 hb1.size hw (by omega)).mono ?_; rintro e w2 ⟨rfl, hb2⟩; have hk2 := (hk1.call (hb2.mono hb1.size)); have b2 := below_call hb1 hb1.size hb2)
      | (go_at_call 24; refine (pieces_wrong A0 len0 cap0 key _ _ _ hk2 b2.size hw (by omega)).mono ?_; rintro e w3 ⟨rfl, hb3⟩)
      | (go_at_call 14; refine (right_no A0 len0 cap0 _ hw (by omega)).mono ?_; rintro e w4 ⟨rfl, rfl⟩))
    go_ret
    exact ⟨rfl, below_call b2 b2.size hb3⟩
  · go_wp2_with (first
      | (go_at_call 15; refine (stream_right A0 len0 cap0 key A2 _ k2 _ _ _ (hk1.more hb1.size) ho1 (Nat.le_refl _) hw1 hw2 hkv hfv (by omega)).mono ?_; rintro e w2 ⟨A3, rfl, ho2, hb2⟩; have hk2 := (hk1.call (hb2.mono hb1.size)); have hr2 := (hr1.call (hb2.mono hb1.size)); have b2 := below_call hb1 hb1.size hb2)
      | (go_at_call 24; refine (pieces_any A0 len0 cap0 key A1 len1 cap1 L _ _ hk2 hr2 b2.size hw1 hw2 hkv hrv hn2 hL1).mono ?_; rintro e w3 ⟨A4, k4, M, rfl, hM, ho3, hb3⟩; have hr3 := (hr2.call (hb3.mono b2.size)); have ho23 := (ho2.call hb3); have b3 := below_call b2 b2.size hb3)
      | (go_at_call 14; refine (right_yes A0 len0 cap0 _ hw1 hw2).mono ?_; rintro e w4 ⟨rfl, rfl⟩))
    have hlens : ∀ k (h1 : k < (heads M).length) (h2 : k < L.length), (heads M)[k].1.n = L[k].1.n := by
      intro k h1 h2
      have h3 : k < M.length := by simpa [heads] using h1
      have e1 : (heads M)[k].1.n = M[k].2.length := by simp [heads]
      have e2 := congrArg (fun l => (l.map List.length)[k]?) hM
      simp only [pcs_map_length, List.getElem?_map, List.getElem?_eq_getElem h3, List.getElem?_eq_getElem h2, Option.map_some, Option.some.injEq] at e2
      rw [e1, e2]
      exact (hr.row _ (List.getElem_mem h2)).1.length
    have hfl : (heads M).flatMap (·.2) = mix (keyed key) F := by
      have e : (heads M).flatMap (·.2) = (M.map (·.2)).flatten := by
        unfold heads
        rw [List.flatMap_map, List.flatMap_def]
      rw [e, hM, pcs_flatten, ← HF.out, List.flatMap_def]
    have HFL := Lib.hid hfl
    have HLE := Lib.hid hlens
    clear hlens hfl hM
    have hll := hr.length
    have hlm := ho3.length
    have HLL := Lib.hid hll
    have HLM := Lib.hid hlm
    have b25 := hb3.size
    clear hll hlm hk1 hr1 hk2 hr2 ho1 ho2 hb1 hb2 hb3 hk
    have hn2' : (len1 : Int) ≤ 1000 := by omega
    generalize hB3 : w3.heap.size = b4 at ho3
    have b34 : b4 ≤ w3.heap.size := by omega
    clear hB3
    generalize hB2 : w2.heap.size = b5 at ho23 b25
    clear hB2
    go_loopw [9] (fun i wr => ∃ k : Nat, k ≤ len1 ∧ i = .int .i64 (k : Int) ∧ Rc.Rows wr W.heap.size A1 len1 L ∧ Rc.Rows wr b4 A4 len1 (heads M) ∧ Bytes wr b5 A3 N (mix (keyed key) F) ∧ Below W.heap.size W wr ∧ b4 ≤ wr.heap.size ∧ b5 ≤ wr.heap.size) (fun i _ => len1 - (intOf i).toNat)
    case atStart => exact ⟨0, Nat.zero_le _, rfl, hr3, ho3, ho23, b3, b34, b25⟩
    case round =>
      clear hr3 ho3 ho23 b3 b34 b2 b25
      obtain ⟨k, hk, rfl, hR, hS, hT, hbel, hb4, hb5'⟩ := hrel
      by_cases hlt : k < len1
      · have hlt' : (k : Int) < (len1 : Int) := by omega
        have hkl : k < L.length := by rw [HLL.out]; exact hlt
        have hkm : k < (heads M).length := by rw [HLM.out]; exact hlt
        obtain ⟨ad, rfl, had, hc1⟩ := hR.at_ (by omega)
        obtain ⟨ad4, rfl, had4, hc2⟩ := hS.at_ (by omega)
        have f1 := hc1 k hkl
        have f2 := hc2 k hkm
        have hxn := hL1 _ (List.getElem_mem hkl)
        rw [HLE.out k hkm hkl] at f2
        clear hc1 hc2
        generalize L[k].1.n = xn at f1 f2 hxn
        generalize L[k].1.A = xA at f1
        generalize L[k].1.c = xc at f1
        generalize (heads M)[k].1.A = yA at f2
        generalize (heads M)[k].1.c = yc at f2
        go_wp2_with fail
        go_quiet (fail)
        go_wp2
        go_roundw
        case rel => exact ⟨k + 1, by omega, by go_num, ⟨hR.top, hR.row⟩, ⟨hS.top, hS.row⟩, hT, below_drewN hbel _, hb4, hb5'⟩
        case measure => simp [intOf]; omega
      · have hge : (len1 : Int) ≤ (k : Int) := by omega
        have J := joined_any A4 len1 k4 (heads M) _ wr hS hb4 hn2 (by rw [HFL.out, mix_length, HN.out]; exact hL2)
        rw [HFL.out, mix_length, HN.out] at J
        go_wp2_with (first
          | (go_at_call 23; refine J.mono ?_; rintro e w5 ⟨A5, k5, rfl, ho5, hb5⟩; have ho4 := hT.call (hb5.mono hb5'))
          | (go_at_call 16; refine (same_self _ _ _ _ _ _ _ _ _ ho4 ho5).mono ?_; rintro e w6 ⟨rfl, rfl⟩))
        go_ret
        exact ⟨rfl, below_call hbel hbel.size hb5⟩
end Go.Proofs.Ytcmokpacocgolaa
