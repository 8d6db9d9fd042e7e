/- The walks of the reference's Same, KeyRight, Mixed. -/
import Derived.Test.YtcmokpacocgolaaWByte
import Derived.Test.YtcmokpacocgolaaWKeyed
import Derived.Test.YtcmokpacocgolaaWClone
namespace Go.Proofs.Ytcmokpacocgolaa.Rc
open Go.RowKit Mem

/-- A new row of one cell reads as that cell. -/
theorem new_one (w : World) (t : TypeId) (u : Value) : Reads (w.alloc (.cells #[u] t)) (w.heap.size + 1) 1 (some ⟨w.heap.size, 0, none⟩) 1 [u] := by
  refine ⟨rfl, fun _ => ⟨_, rfl, by simp, fun j x hx => ?_⟩⟩
  match j, hx with
  | 0, hx =>
    injection hx with hx
    subst hx
    simp [Addr.add]

/-- Bytes as a string's. -/
def bs (vs : List Nat) : ByteArray := ⟨(vs.map fun v => UInt8.ofNat v).toArray⟩

theorem run_conv {w : World} {b : Nat} {A : Option Addr} {n cap : Nat} {vs : List Nat} (h : Bytes w b A n vs) :
    (convert 22 9 (.slice A n cap)).run Try.prog w = .ok (.string (bs vs)) w := by
  rcases A with _ | ad
  · have h0 : n = 0 := by
      rcases Nat.eq_zero_or_pos n with h1 | h1
      · exact h1
      · obtain ⟨ad, h2, _⟩ := h.2 h1; cases h2
    subst h0
    have hv : vs = [] := List.eq_nil_of_length_eq_zero h.length
    subst hv
    exact run_convert_bytes_nil w 22 5 Try.underlying22 Try.underlying5 0 cap 9 Try.underlying9
  · have hcells : ∀ j v, (u8s vs)[j]? = some v → w.cell? (ad.add j) = some v := by
      intro j v hj
      rcases Nat.eq_zero_or_pos n with h1 | h1
      · have : vs = [] := List.eq_nil_of_length_eq_zero (by rw [h.length]; exact h1)
        subst this; simp [u8s] at hj
      · obtain ⟨ad', h2, _, hc⟩ := h.2 h1
        injection h2 with h2
        subst h2
        exact hc j v hj
    have hl := run_loadCells_list (P := Try.prog) w ad (u8s vs) hcells
    have e : u8s vs = (vs.map fun v : Nat => (v : Int)).map (Value.int .u8) := by simp [u8s]
    rw [u8s_length, h.length, e] at hl
    rw [run_convert_bytes_string w 22 9 5 _ n cap Try.underlying22 Try.underlying5 Try.underlying9, run_bytesToString w _ n cap _ hl, foldl_push_bytes]
    congr 2
    simp [bs, ByteArray.empty, ByteArray.emptyWithCapacity]
    rfl

set_option maxHeartbeats 400000 in
theorem same_self (A : Option Addr) (n cap : Nat) (A' : Option Addr) (cap' : Nat) (vs : List Nat) (b b' : Nat) (w : World) (h : Bytes w b A n vs) (h' : Bytes w b' A' n vs) :
    Calls Try.prog 16 #[.slice A n cap, .slice A' n cap'] w fun e w' => e = .returned (.bool true) ∧ w = w' := by
  have e1 := run_conv (cap := cap) h
  have e2 := run_conv (cap := cap') h'
  have e3 : ((bs vs).toList == (bs vs).toList) = true := by simp
  go_enter Try.func16, Try.ntmps16
  go_wp2
  go_ret
  exact ⟨rfl, rfl⟩

set_option maxHeartbeats 400000 in
theorem right_yes (A : Option Addr) (n cap : Nat) (w : World) (h1 : 1 ≤ n) (h2 : n ≤ 256) :
    Calls Try.prog 14 #[.slice A n cap] w fun e w' => e = .returned (.bool true) ∧ w = w' := by
  have h1' : (1 : Int) ≤ (n : Int) := by omega
  have h2' : (n : Int) ≤ 256 := by omega
  go_enter Try.func14, Try.ntmps14
  go_wp2
  go_ret
  exact ⟨rfl, rfl⟩

set_option maxHeartbeats 400000 in
theorem right_no (A : Option Addr) (n cap : Nat) (w : World) (h : n < 1 ∨ 256 < n) (hn : n ≤ 2147483647) :
    Calls Try.prog 14 #[.slice A n cap] w fun e w' => e = .returned (.bool false) ∧ w = w' := by
  rcases h with h | h
  · have h' : (n : Int) < 1 := by omega
    go_enter Try.func14, Try.ntmps14
    go_wp2
    go_ret
    exact ⟨rfl, rfl⟩
  · have h1 : (1 : Int) ≤ (n : Int) := by omega
    have h' : (256 : Int) < (n : Int) := by omega
    go_enter Try.func14, Try.ntmps14
    go_wp2
    go_ret
    refine ⟨?_, rfl⟩
    show Ending.returned (.bool (decide ((n : Int) ≤ 256))) = _
    rw [decide_eq_false (by omega)]

set_option maxRecDepth 100000 in
set_option maxHeartbeats 1000000 in
theorem mixed_any (A : Option Addr) (n cap : Nat) (key : List Nat) (As : Option Addr) (m caps : Nat) (vs : List Nat) (b : Nat) (w : World) (hk : Bytes w b A n key) (hs : Bytes w b As m vs) (hb : b ≤ w.heap.size)
    (hn : 1 ≤ n) (hn2 : n ≤ 256) (hv : ∀ v ∈ key, v < 256) (hvs : ∀ v ∈ vs, v < 256) (hm : m ≤ 2147483647) :
    Calls Try.prog 17 #[.slice A n cap, .slice As m caps] w fun e w' =>
      ∃ A' c', e = .returned (.slice A' m c') ∧ Bytes w' w'.heap.size A' m (mix (keyed key) vs) ∧ Below w.heap.size w w' := by
  obtain ⟨i0, hi0, hz0, hz1, hz2⟩ := info_parts info5
  obtain ⟨ti, hti, hz, hsz⟩ := row35
  have hkok := keyed_ok key
  have hvl := hs.length
  have HVL := Lib.hid hvl
  clear hvl
  go_enter Try.func17, Try.ntmps17
  go_wp2_with fail
  refine (keyed_any A n cap key b w hk hb hn hn2 hv).mono ?_
  rintro e w1 ⟨rfl, hb1⟩
  go_wp2_with (first
    | (refine wpList_alloc rfl 35 rfl ti _ (spc C0) hti hz rfl ?_; intro g w2 hg hlt2 hB2 hb2; (try go_frame))
    | (refine wpList_store_all rfl 35 _ _ rfl g rfl hB2 (spc (keyed key)) rfl (by rw [spc_length _ hkok.len, spc_length C0 zeros_length]) (spc_one _) (by rw [size35, spc_length _ hkok.len]) ?_; intro w3 hB3 hO3; (try go_frame)))
  have s1 := hb1.size
  have s2 := hb2.size
  have B3 : Below w.heap.size w w3 := (below_call hb1 s1 hb2).trans (hO3.below _ (by omega))
  have s3 := B3.size
  have hown0 : (w3.alloc (.cells #[] 5)).ownsRow w.heap.size 5 1 (.slice (some ⟨w3.heap.size, 0, none⟩) 0 0) 0 [] := World.ownsRow_lit w3 #[] 0 s3 (by unfold maxLen; omega) rfl
  have hBa := hB3.alloc (.cells #[] 5)
  have Ba := B3.alloc s3 (.cells #[] 5)
  have hml : (mix (keyed key) vs).length = m := by rw [mix_length, HVL.out]
  have HML := Lib.hid hml
  clear hml hB3 hO3 hB2 hb2 hb1 hti hz hsz
  go_loopw [6, 7] (fun out i wr => ∃ k : Nat, k ≤ m ∧ i = .int .i64 (k : Int) ∧ B wr g 35 (spc (after (keyed key) k)) ∧ wr.ownsRow w.heap.size 5 1 out k (u8s ((mix (keyed key) vs).take k)) ∧ Below w.heap.size w wr) (fun _ i _ => m - (intOf i).toNat)
  case atStart => exact ⟨0, Nat.zero_le _, rfl, hBa, hown0, Ba⟩
  case round =>
    clear hBa hown0 Ba
    obtain ⟨k, hkm, rfl, hB, hown, hbel⟩ := hrel
    have hd := after_ok hkok k
    by_cases hlt : k < m
    · have hlt' : (k : Int) < (m : Int) := by omega
      have hm' : (m : Int) ≤ 2147483647 := by omega
      obtain ⟨ad, rfl, had, hcell⟩ := hs.at_ (by omega)
      have hsc := hcell k hlt
      have HSC := Lib.hid hsc
      have hmv := mix_getD (keyed key) vs k (by rw [HVL.out]; exact hlt)
      have hnx : after (keyed key) (k + 1) = nxt (after (keyed key) k) := rfl
      have HNX := Lib.hid hnx
      rw [hnx] at hmv
      clear hnx hcell hsc
      generalize hg : after (keyed key) k = d at hB hd hmv HNX ⊢
      clear hg
      have hol := outB_lt (nxt_ok hd)
      have hvv : vs.getD k 0 < 256 := getD_lt hvs _
      generalize hgv : vs.getD k 0 = v at hmv hvv HSC
      generalize hgo : outB (nxt d) = o at hmv hol
      have HGO := Lib.hid hgo
      have HMV := Lib.hid hmv
      clear hgv hgo hmv
      have hbx := bxor8 v o hvv hol
      have sr := hbel.size
      go_wp2_with (first
        | (refine wpList_load_all rfl 35 _ rfl g rfl hB Try.underlying35 rfl (by rw [size35, spc_length _ hd.len]) ?_)
        | (go_at_call 31; refine (byte_any d hd _).mono ?_; rintro e w4 ⟨rfl, hb4⟩; rw [HGO.out]; have hB4 := hB.call hb4; have hown4 := own_call hown hb4; have b4 := below_call hbel sr hb4)
        | (refine wpList_store_all rfl 35 _ _ rfl g rfl hB4 (spc (nxt d)) rfl (by rw [spc_length _ hd.len, spc_length _ (nxt_ok hd).len]) (spc_one _) (by rw [size35, spc_length _ (nxt_ok hd).len]) ?_; intro w5 hB5 hO5; (try go_frame); have hown5 := own_only hown4 hB4 (by decide) hO5; have b5 := b4.trans (hO5.below _ (by omega)); have hc5 : w5.cell? (ad.add k) = some (.int .u8 (v : Int)) := (b5.cell (p := ad.add k) (by rw [block_of_add]; omega)).trans HSC.out)
        | (at_builtin; refine wpList_append_any _ rfl (.tmp 23) (.tmp 30) _ rfl w.heap.size 5 i0 _ 1 1 Try.underlying22 hi0 hz0 hz1 hz2 rfl (by omega) _ k (u8s ((mix (keyed key) vs).take k)) rfl (World.ownsRow.alloc hown5 _) (w5.heap.size + 1) (some ⟨w5.heap.size, 0, none⟩) 1 1 [.int .u8 ((v ^^^ o : Nat) : Int)] rfl (new_one w5 _ _) (by simp [Value.oneCell']) (by simp only [maxLen]; omega) (by omega) (by have := b5.size; simp; omega) ?_; intro v7 w7 hown7 hg7 hat7))
      go_roundw
      case rel =>
        have hoa := World.ownsRow.alloc hown5 (.cells #[.int .u8 ((v ^^^ o : Nat) : Int)] 5)
        have hba := hB5.alloc (.cells #[.int .u8 ((v ^^^ o : Nat) : Int)] 5)
        refine ⟨k + 1, by omega, by go_num, ?_, ?_, (b5.alloc b5.size _).grown hg7 (by have := b5.size; simp; omega) (own_base hoa)⟩
        · rw [HNX.out]; exact hba.grown hg7 (own_ne hoa hba (by decide))
        · have et : u8s ((mix (keyed key) vs).take (k + 1)) = u8s ((mix (keyed key) vs).take k) ++ [.int .u8 ((v ^^^ o : Nat) : Int)] := by
            rw [← HMV.out]
            exact u8s_take_succ _ k (by rw [HML.out]; exact hlt)
          rw [et]
          exact hown7
      case measure => simp [intOf]; omega
    · have hge : (m : Int) ≤ (k : Int) := by omega
      have hm' : (m : Int) ≤ 2147483647 := by omega
      have hkm' : k = m := by omega
      have HK := Lib.hid hkm'
      clear hkm'
      go_wp2
      go_ret
      rw [HK.out, List.take_of_length_le (by rw [HML.out]; exact Nat.le_refl _)] at hown
      obtain ⟨A', c', rfl, h1, _⟩ := bytes_of_own hown
      exact ⟨A', c', rfl, h1, hbel⟩
end Go.Proofs.Ytcmokpacocgolaa.Rc
