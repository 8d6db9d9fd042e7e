/- Slices of slices of bytes: what the walks are told of them; the walks of zzFits1, few, joined. -/
import Derived.Test.YtcmokpacocgolaaWNum
import Derived.Test.YtcmokpacocgolaaWClone
namespace Go.Proofs.Ytcmokpacocgolaa.Rc
open Go.RowKit Mem

structure Hdr where
  A : Option Addr
  n : Nat
  c : Nat

def Hdr.val (h : Hdr) : Value := .slice h.A h.n h.c

/-- A slice of slices of bytes: the headers, and what each row reads as. -/
structure Rows (w : World) (b : Nat) (A : Option Addr) (n : Nat) (L : List (Hdr × List Nat)) : Prop where
  top : Reads w b 1 A n (L.map fun x => x.1.val)
  row : ∀ x ∈ L, Bytes w b x.1.A x.1.n x.2 ∧ x.1.n ≤ 9223372036854775807

theorem Rows.length {w : World} {b : Nat} {A : Option Addr} {n : Nat} {L : List (Hdr × List Nat)} (h : Rows w b A n L) : L.length = n := by
  have := h.top.1; simpa using this
theorem Rows.call {w w' : World} {b : Nat} {A : Option Addr} {n : Nat} {L : List (Hdr × List Nat)} (h : Rows w b A n L) (hb : Below b w w') : Rows w' b A n L :=
  ⟨h.top.below hb, fun x hx => ⟨(h.row x hx).1.call hb, (h.row x hx).2⟩⟩
theorem Rows.at_ {w : World} {b : Nat} {A : Option Addr} {n : Nat} {L : List (Hdr × List Nat)} (h : Rows w b A n L) (hn : 0 < n) :
    ∃ ad, A = some ad ∧ ad.block < b ∧ ∀ k (hk : k < L.length), w.cell? (ad.add k) = some (.slice L[k].1.A L[k].1.n L[k].1.c) := by
  obtain ⟨ad, rfl, hb, hc⟩ := h.top.2 hn
  refine ⟨ad, rfl, hb, fun k hk => hc k _ ?_⟩
  rw [List.getElem?_map, List.getElem?_eq_getElem hk]
  rfl

/-- All bytes of the first k rows. -/
def upTo (L : List (Hdr × List Nat)) (k : Nat) : List Nat := (L.take k).flatMap (·.2)
theorem upTo_zero (L : List (Hdr × List Nat)) : upTo L 0 = [] := rfl
theorem upTo_succ (L : List (Hdr × List Nat)) (k : Nat) (hk : k < L.length) : upTo L (k + 1) = upTo L k ++ L[k].2 := by
  unfold upTo
  rw [List.take_succ_eq_append_getElem hk, List.flatMap_append]
  simp
theorem upTo_all (L : List (Hdr × List Nat)) (k : Nat) (hk : L.length ≤ k) : upTo L k = L.flatMap (·.2) := by
  unfold upTo
  rw [List.take_of_length_le hk]
theorem upTo_le (L : List (Hdr × List Nat)) (k : Nat) : (upTo L k).length ≤ (L.flatMap (·.2)).length := by
  have e : L.flatMap (·.2) = upTo L k ++ (L.drop k).flatMap (·.2) := by
    unfold upTo
    rw [← List.flatMap_append, List.take_append_drop]
  rw [e, List.length_append]
  omega

set_option maxRecDepth 100000 in
set_option maxHeartbeats 400000 in
theorem fits_any (A : Option Addr) (n cap : Nat) (L : List (Hdr × List Nat)) (b : Nat) (w : World) (h : Rows w b A n L) (hn : n ≤ 9223372036854775807) :
    Calls Try.prog 21 #[.slice A n cap] w fun e w' => ∃ t, e = .returned (.bool t) ∧ w = w' ∧ (t = true → n ≤ 2147483647 ∧ ∀ x ∈ L, x.1.n ≤ 2147483647) := by
  have hll := h.length
  have HLL := Lib.hid hll
  clear hll
  by_cases h1 : 2147483647 < n
  · have h1' : (2147483647 : Int) < (n : Int) := by omega
    go_enter Try.func21, Try.ntmps21
    go_wp2
    go_ret
    exact ⟨false, rfl, rfl, fun h => by cases h⟩
  have h1' : (n : Int) ≤ 2147483647 := by omega
  go_enter Try.func21, Try.ntmps21
  go_wp2
  go_loopw [10] (fun i wr => ∃ k : Nat, k ≤ n ∧ i = .int .i64 (k : Int) ∧ w = wr ∧ ∀ j (hj : j < L.length), j < k → L[j].1.n ≤ 2147483647) (fun i _ => n - (intOf i).toNat)
  case atStart => exact ⟨0, Nat.zero_le _, rfl, rfl, fun j hj h => absurd h (by omega)⟩
  case round =>
    obtain ⟨k, hk, rfl, rfl, hall⟩ := hrel
    have HALL := Lib.hid hall
    clear hall
    by_cases hlt : k < n
    · have hlt' : (k : Int) < (n : Int) := by omega
      obtain ⟨ad, rfl, had, hcell⟩ := h.at_ (by omega)
      have hkl : k < L.length := by rw [HLL.out]; exact hlt
      have f1 := hcell k hkl
      have hrow := (h.row _ (List.getElem_mem hkl)).2
      have HCell := Lib.hid hcell
      clear hcell
      generalize hgx : L[k].1.A = xA at f1
      generalize hgc : L[k].1.c = xc at f1
      generalize hgn : L[k].1.n = xn at f1 hrow
      have HGN := Lib.hid hgn
      clear hgx hgc hgn
      by_cases hx : 2147483647 < xn
      · have hx' : (2147483647 : Int) < (xn : Int) := by omega
        go_wp2
        go_ret
        exact ⟨false, rfl, rfl, fun h => by cases h⟩
      · have hx' : (xn : Int) ≤ 2147483647 := by omega
        go_wp2
        go_roundw
        case rel =>
          refine ⟨k + 1, by omega, by go_num, trivial, fun j hj hjk => ?_⟩
          by_cases e : j = k
          · subst e; rw [HGN.out]; omega
          · exact HALL.out j hj (by omega)
        case measure => simp [intOf]; omega
    · have hge : (n : Int) ≤ (k : Int) := by omega
      go_wp2
      go_ret
      refine ⟨true, rfl, rfl, fun _ => ⟨by omega, fun x hx => ?_⟩⟩
      obtain ⟨j, hj, rfl⟩ := List.mem_iff_getElem.1 hx
      exact HALL.out j hj (by rw [HLL.out] at hj; omega)

set_option maxRecDepth 100000 in
set_option maxHeartbeats 400000 in
theorem few_any (A : Option Addr) (n cap : Nat) (L : List (Hdr × List Nat)) (b : Nat) (w : World) (h : Rows w b A n L) (hn : n ≤ 2147483647) (hL : ∀ x ∈ L, x.1.n ≤ 2147483647) :
    Calls Try.prog 22 #[.slice A n cap] w fun e w' => ∃ t, e = .returned (.bool t) ∧ w = w' ∧ (t = true → n ≤ 1000 ∧ (L.flatMap (·.2)).length ≤ 1048576) := by
  have hll := h.length
  have HLL := Lib.hid hll
  clear hll
  by_cases h1 : 1000 < n
  · have h1' : (1000 : Int) < (n : Int) := by omega
    go_enter Try.func22, Try.ntmps22
    go_wp2
    go_ret
    exact ⟨false, rfl, rfl, fun h => by cases h⟩
  have h1' : (n : Int) ≤ 1000 := by omega
  go_enter Try.func22, Try.ntmps22
  go_wp2
  go_loopw [3, 4] (fun m i wr => ∃ k : Nat, k ≤ n ∧ i = .int .i64 (k : Int) ∧ m = .int .i64 ((upTo L k).length : Int) ∧ w = wr ∧ (upTo L k).length ≤ 2148532223) (fun _ i _ => n - (intOf i).toNat)
  case atStart => exact ⟨0, Nat.zero_le _, rfl, rfl, rfl, by simp [upTo_zero]⟩
  case round =>
    obtain ⟨k, hk, rfl, rfl, rfl, hm⟩ := hrel
    have hup := upTo_all L k
    have HUP := Lib.hid hup
    have hle := upTo_le L k
    clear hup
    by_cases hlt : k < n
    · have hlt' : (k : Int) < (n : Int) := by omega
      have hkl : k < L.length := by rw [HLL.out]; exact hlt
      have hsucc := congrArg List.length (upTo_succ L k hkl)
      rw [List.length_append, (h.row _ (List.getElem_mem hkl)).1.length] at hsucc
      have HS := Lib.hid hsucc
      clear hsucc
      obtain ⟨ad, rfl, had, hcell⟩ := h.at_ (by omega)
      have f1 := hcell k hkl
      have hrow := hL _ (List.getElem_mem hkl)
      have HCell := Lib.hid hcell
      clear hcell
      generalize hgx : L[k].1.A = xA at f1
      generalize hgc : L[k].1.c = xc at f1
      generalize hgn : L[k].1.n = xn at f1 hrow HS
      clear hgx hgc hgn
      generalize hgu : (upTo L k).length = u at hm HS hle HUP
      by_cases hx : 1048576 < u
      · have hx' : (1048576 : Int) < (u : Int) := by omega
        go_wp2
        go_ret
        refine ⟨false, ?_, rfl, fun h => by cases h⟩
        show Ending.returned (.bool (decide ((u : Int) ≤ 1048576))) = _
        rw [decide_eq_false (by omega)]
      · have hx' : (u : Int) ≤ 1048576 := by omega
        go_wp2
        go_roundw
        case rel =>
          refine ⟨k + 1, by omega, by go_num, ?_, trivial, by rw [HS.out]; omega⟩
          rw [HS.out]; go_num
        case measure => simp [intOf]; omega
    · have hge : (n : Int) ≤ (k : Int) := by omega
      have hk' : L.length ≤ k := by rw [HLL.out]; omega
      go_wp2
      go_ret
      refine ⟨decide ((upTo L k).length ≤ 1048576), ?_, rfl, fun ht => ⟨by omega, ?_⟩⟩
      · show Ending.returned (.bool (decide (((upTo L k).length : Int) ≤ 1048576))) = _
        rw [show decide (((upTo L k).length : Int) ≤ 1048576) = decide ((upTo L k).length ≤ 1048576) by rw [decide_eq_decide]; omega]
      · have := of_decide_eq_true ht
        rw [HUP.out hk'] at this
        exact this

set_option maxRecDepth 100000 in
set_option maxHeartbeats 1000000 in
theorem joined_any (A : Option Addr) (n cap : Nat) (L : List (Hdr × List Nat)) (b : Nat) (w : World) (h : Rows w b A n L) (hb : b ≤ w.heap.size) (hn : n ≤ 1000) (hL : (L.flatMap (·.2)).length ≤ 1048576) :
    Calls Try.prog 23 #[.slice A n cap] w fun e w' => ∃ A' c', e = .returned (.slice A' (L.flatMap (·.2)).length c') ∧ Bytes w' w'.heap.size A' (L.flatMap (·.2)).length (L.flatMap (·.2)) ∧ Below w.heap.size w w' := by
  obtain ⟨i0, hi0, hz0, hz1, hz2⟩ := info_parts info5
  have hll := h.length
  have HLL := Lib.hid hll
  clear hll
  have hn' : (n : Int) ≤ 1000 := by omega
  go_enter Try.func23, Try.ntmps23
  go_wp2
  have hown0 : (w.alloc (.cells #[] 5)).ownsRow w.heap.size 5 1 (.slice (some ⟨w.heap.size, 0, none⟩) 0 0) 0 [] := World.ownsRow_lit w #[] 0 (Nat.le_refl _) (by unfold maxLen; omega) rfl
  have B0 : Below w.heap.size w (w.alloc (.cells #[] 5)) := (Below.refl _ _).alloc (Nat.le_refl _) _
  go_loopw [3, 4] (fun out i wr => ∃ k : Nat, k ≤ n ∧ i = .int .i64 (k : Int) ∧ wr.ownsRow w.heap.size 5 1 out (upTo L k).length (u8s (upTo L k)) ∧ Below w.heap.size w wr) (fun _ i _ => n - (intOf i).toNat)
  case atStart => exact ⟨0, Nat.zero_le _, rfl, hown0, B0⟩
  case round =>
    clear hown0 B0
    obtain ⟨k, hk, rfl, hown, hbel⟩ := hrel
    have hle := upTo_le L k
    by_cases hlt : k < n
    · have hlt' : (k : Int) < (n : Int) := by omega
      have hkl : k < L.length := by rw [HLL.out]; exact hlt
      have hsucc := upTo_succ L k hkl
      have hle2 := upTo_le L (k + 1)
      have hr := h.call (hbel.mono hb)
      obtain ⟨ad, rfl, had, hcell⟩ := hr.at_ (by omega)
      have f1 := hcell k hkl
      have hrow := (hr.row _ (List.getElem_mem hkl)).1
      have hlen := congrArg List.length hsucc
      rw [List.length_append, hrow.length] at hlen
      have HS := Lib.hid hsucc
      have HN := Lib.hid hlen
      rw [hlen] at hle2
      clear hcell hsucc hlen
      generalize L[k].2 = p at hrow HS
      generalize L[k].1.A = xA at f1 hrow
      generalize L[k].1.c = xc at f1
      generalize L[k].1.n = xn at f1 hrow HN hle2
      generalize hgu : upTo L k = u at hown HS HN hle hle2
      have sr := hbel.size
      go_wp2_with (at_builtin; refine wpList_append_any _ rfl (.tmp 12) (.tmp 16) _ rfl w.heap.size 5 i0 _ 1 1 Try.underlying22 hi0 hz0 hz1 hz2 rfl (by omega) _ u.length (u8s u) rfl hown b xA xn xc (u8s p) rfl hrow (u8s_one p) (by simp only [maxLen]; omega) (by omega) (by omega) ?_; intro v1 w1 hown1 hg1 hat1)
      go_roundw
      case rel =>
        refine ⟨k + 1, by omega, by go_num, ?_, hbel.grown hg1 sr (own_base hown)⟩
        rw [HN.out, HS.out]
        unfold u8s at hown1 ⊢
        rw [List.map_append]
        exact hown1
      case measure => simp [intOf]; omega
    · have hge : (n : Int) ≤ (k : Int) := by omega
      have hup := upTo_all L k (by rw [HLL.out]; omega)
      have HUP := Lib.hid hup
      clear hup
      go_wp2
      go_ret
      rw [HUP.out] at hown
      obtain ⟨A', c', rfl, h1, _⟩ := bytes_of_own hown
      exact ⟨A', c', rfl, h1, hbel⟩
end Go.Proofs.Ytcmokpacocgolaa.Rc
