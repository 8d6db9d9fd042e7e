/- The walk of the generator's Unmarshal. -/
import Derived.Test.YtjhpffenlhfilaaWMar
import Derived.Test.YtjhpffenlhfilaaQTail
namespace Go.Proofs.Ytjhpffenlhfilaa.Ch
open Go.RowKit Mem

def word (bs : List Y) (o : Nat) : V := le8 fun i => bs.getD (o + i) 0
def usedB (bs : List Y) : Nat := (le8 fun i => bs.getD (8 + (7 - i)) 0).toNat
def ofB (bs : List Y) : G := ⟨word bs 16, word bs 24, word bs 32, word bs 40, usedB bs / 32, usedB bs % 32⟩
def validB (bs : List Y) : Prop := bs.length = 48 ∧ bs.take 8 = hdr ∧ usedB bs ≤ 124
theorem ofB_ok {bs : List Y} (h : validB bs) : (ofB bs).ok := by
  have h1 : usedB bs ≤ 124 := h.2.2
  refine ⟨by show usedB bs / 32 < 4; omega, ?_⟩
  show usedB bs % 32 ≤ if usedB bs / 32 = 3 then 28 else 32
  split <;> omega

/-- Bytes as a string's. -/
def strOf (l : List Y) : ByteArray := ⟨(l.map fun v => UInt8.ofBitVec v).toArray⟩
theorem strOf_inj {l m : List Y} (h : (strOf l).toList = (strOf m).toList) : l = m := by
  rw [ByteArray.toList_eq, ByteArray.toList_eq] at h
  have h' : l.map (fun v => UInt8.ofBitVec v) = m.map (fun v => UInt8.ofBitVec v) := h
  have := congrArg (List.map UInt8.toBitVec) h'
  simpa [Function.comp_def] using this
theorem strOf_hdr : strOf hdr = hdrS := rfl

theorem hdrS_list : hdrS.toList = [99, 104, 97, 99, 104, 97, 56, 58] := by rw [ByteArray.toList_eq]; rfl

theorem run_conv8 {w : World} {ad : Addr} {n cap : Nat} {l : List Y} (hl : l.length = n) (hc : ∀ j v, (b8s l)[j]? = some v → w.cell? (ad.add j) = some v) :
    (convert 38 9 (.slice (some ad) n cap)).run Try.prog w = .ok (.string (strOf l)) w := by
  have hlc := run_loadCells_list (P := Try.prog) w ad (b8s l) hc
  have e : b8s l = (l.map fun v : Y => n8 v).map (Value.int .u8) := by simp [b8s]
  rw [b8s_length, hl, e] at hlc
  rw [run_convert_bytes_string w 38 9 5 _ n cap Try.underlying38 Try.underlying5 Try.underlying9, run_bytesToString w _ n cap _ hlc, foldl_push_bytes]
  congr 2
  simp [strOf, ByteArray.empty, ByteArray.emptyWithCapacity]
  show [] ++ _ = _
  rw [List.nil_append]
  refine List.map_congr_left fun v _ => ?_
  show UInt8.ofNat (n8 v).toNat = ⟨v⟩
  unfold n8
  apply UInt8.eq_of_toBitVec_eq
  simp

set_option maxRecDepth 100000 in
set_option maxHeartbeats 1000000 in
theorem unmarshal_len (p : Value) (Ad : Option Addr) (n cap : Nat) (hn : n ≠ 48) (w : World) :
    Calls Try.prog 47 #[p, .slice Ad n cap] w fun e w' =>
      (∃ v, e = .returned (.iface 88 v)) ∧ Below w.heap.size w w' := by
  have h1 : (n : Int) ≠ 48 := by omega
  have h2 : ((n : Int) == 48) = false := beq_eq_false_iff_ne.2 h1
  go_enter Try.func47, Try.ntmps47
  go_wp2
  go_ret
  exact ⟨⟨_, rfl⟩, (Below.refl _ _).alloc (Nat.le_refl _) _⟩

theorem cells_at {w : World} {gd : Nat} {D : List Value} {bs : List Y} (hD : B w gd 5 D) (hDl : D.take 48 = b8s bs) (hl : bs.length = 48) (j : Nat) (hj : j < 48) : w.cell? ⟨gd, j, none⟩ = some (.int .u8 (n8 (bs.getD j 0))) := by
  rw [hD.cell]
  have h1 : (D.take 48)[j]? = some (.int .u8 (n8 (bs.getD j 0))) := by rw [hDl]; exact b8s_get bs j (by omega)
  rw [List.getElem?_take, if_pos hj] at h1
  exact h1

set_option maxRecDepth 100000 in
set_option maxHeartbeats 1000000 in
theorem unmarshal_hdr (p : Value) (gd cap : Nat) (D : List Value) (bs : List Y) (hl : bs.length = 48) (hDl : D.take 48 = b8s bs) (hcap : 48 ≤ cap) (hh : bs.take 8 ≠ hdr) (w : World) (hD : B w gd 5 D) :
    Calls Try.prog 47 #[p, .slice (some ⟨gd, 0, none⟩) 48 cap] w fun e w' =>
      (∃ v, e = .returned (.iface 88 v)) ∧ Below w.heap.size w w' := by
  have hconv := run_conv8 (w := w) (ad := ⟨gd, 0, none⟩) (n := 8) (cap := cap) (l := bs.take 8) (by rw [List.length_take, hl]; rfl) (fun j v hj => by
    have hj8 : j < 8 := by
      have := (List.getElem?_eq_some_iff.1 hj).1
      rw [b8s_length, List.length_take] at this; omega
    rw [Addr.add_mid, Nat.zero_add, cells_at hD hDl hl j (by omega)]
    rw [b8s_get _ j (by rw [List.length_take]; omega)] at hj
    rw [← hj]
    congr 2
    simp [List.getD, hj8])
  have hne : ((strOf (bs.take 8)).toList == hdrS.toList) = false := beq_eq_false_iff_ne.2 fun h => hh (strOf_inj (h.trans (by rw [strOf_hdr])))
  have hcap' : (48 : Int) ≤ (cap : Int) := by omega
  have hcap8 : (8 : Int) ≤ (cap : Int) := by omega
  have hcap9 : 8 ≤ cap := by omega
  generalize strOf (bs.take 8) = S at hconv hne
  clear hD hDl hl hh
  rw [hdrS_list] at hne
  go_enter Try.func47, Try.ntmps47
  go_wp2
  go_ret
  exact ⟨⟨_, rfl⟩, (Below.refl _ _).alloc (Nat.le_refl _) _⟩

theorem conv_ok {w : World} {gd cap : Nat} {D : List Value} {bs : List Y} (hl : bs.length = 48) (hDl : D.take 48 = b8s bs) (hD : B w gd 5 D) (hh : bs.take 8 = hdr) :
    (convert 38 9 (.slice (some ⟨gd, 0, none⟩) 8 cap)).run Try.prog w = .ok (.string hdrS) w := by
  have hconv := run_conv8 (w := w) (ad := ⟨gd, 0, none⟩) (n := 8) (cap := cap) (l := bs.take 8) (by rw [List.length_take, hl]; rfl) (fun j v hj => by
    have hj8 : j < 8 := by
      have := (List.getElem?_eq_some_iff.1 hj).1
      rw [b8s_length, List.length_take] at this; omega
    rw [Addr.add_mid, Nat.zero_add, cells_at hD hDl hl j (by omega)]
    rw [b8s_get _ j (by rw [List.length_take]; omega)] at hj
    rw [← hj]
    congr 2
    simp [List.getD, hj8])
  rw [hh, strOf_hdr] at hconv
  exact hconv

set_option maxRecDepth 100000 in
set_option maxHeartbeats 1000000 in
theorem unmarshal_used (p : Value) (gd cap : Nat) (D : List Value) (bs : List Y) (hl : bs.length = 48) (hDl : D.take 48 = b8s bs) (hcap : 48 ≤ cap) (hh : bs.take 8 = hdr) (hu : 124 < usedB bs) (w : World) (hD : B w gd 5 D) :
    Calls Try.prog 47 #[p, .slice (some ⟨gd, 0, none⟩) 48 cap] w fun e w' =>
      (∃ v, e = .returned (.iface 88 v)) ∧ Below w.heap.size w w' := by
  have hconv := conv_ok (cap := cap) hl hDl hD hh
  have hcap' : (48 : Int) ≤ (cap : Int) := by omega
  have hcap8 : (8 : Int) ≤ (cap : Int) := by omega
  have hcap9 : 8 ≤ cap := by omega
  have hbe := be_any gd 8 40 (cap - 8) (fun i => bs.getD (8 + i) 0) (by omega) w (fun i hi => cells_at hD hDl hl (8 + i) (by omega))
  have hU : n64 (le8 fun i => bs.getD (8 + (7 - i)) 0) = (usedB bs : Int) := rfl
  rw [hU] at hbe
  clear hD hDl hl hh hU
  have hu' : (124 : Int) < (usedB bs : Int) := by omega
  generalize usedB bs = u at hbe hu'
  unfold hdrS at hconv
  go_enter Try.func47, Try.ntmps47
  go_wp2_with (go_at_call 64; refine hbe.mono ?_; rintro e w' ⟨rfl, m, rfl⟩)
  go_ret
  exact ⟨⟨_, rfl⟩, (below_drewN (Below.refl _ _) m).alloc (Nat.le_refl _) _⟩
end Go.Proofs.Ytjhpffenlhfilaa.Ch
