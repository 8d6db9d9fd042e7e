/- The walk of the thin package's Draw. -/
import Derived.Test.YtjhpffenlhfilaaWParts2
import Derived.Test.YtjhpffenlhfilaaSeq
import Derived.OwnWalk
namespace Go.Proofs.Ytjhpffenlhfilaa.Ch
open Go.RowKit Mem

theorem info29 : (Try.prog.info? 29).map (fun i => (i.zero, i.size, i.bytes)) = some (some (.int .u64 0), 1, 8) := by kernel_rfl
theorem info_parts {e : TypeId} {z : Value} {s b : Nat} (h : (Try.prog.info? e).map (fun i => (i.zero, i.size, i.bytes)) = some (some z, s, b)) : ∃ i, Try.prog.info? e = some i ∧ i.zero = some z ∧ i.size = s ∧ i.bytes = b := by
  cases hq : Try.prog.info? e with
  | none => rw [hq] at h; cases h
  | some i =>
    rw [hq] at h
    injection h with h
    injection h with h1 h2
    injection h2 with h2 h3
    exact ⟨i, rfl, h1, h2, h3⟩
theorem new_one (w : World) (t : TypeId) (u : Value) : Reads (w.alloc (.cells #[u] t)) (w.heap.size + 1) 1 (some ⟨w.heap.size, 0, none⟩) 1 [u] := by
  refine ⟨rfl, fun _ => ⟨_, rfl, by simp, fun j x hx => ?_⟩⟩
  match j, hx with
  | 0, hx =>
    injection hx with hx
    subst hx
    simp [Addr.add]
theorem own_past {w w' : World} {g base n : Nat} {e t : TypeId} {size : Nat} {v : Value} {xs l : List Value} (h : w.ownsRow base e size v n xs) (hg : B w g t l) (hne : e ≠ t) (hp : Past g w w') : w'.ownsRow base e size v n xs :=
  own_same h fun g' he hlt => hp.block g' hlt (fun e' => own_ne h hg hne (by rw [he, e']))
theorem reads_of_own {w : World} {base n : Nat} {e : TypeId} {v : Value} {xs : List Value} (h : w.ownsRow base e 1 v n xs) : ∃ A c, v = .slice A n c ∧ Reads w w.heap.size 1 A n xs := by
  have hl := h.1
  rcases h.2 with ⟨rfl, rfl⟩ | ⟨g, cap, cur, rfl, r⟩
  · obtain rfl : xs = [] := List.eq_nil_of_length_eq_zero (by simpa using hl)
    exact ⟨none, 0, rfl, Reads.none_⟩
  · exact ⟨some ⟨g, 0, none⟩, cap, rfl, Reads.of_own h⟩

set_option maxRecDepth 100000 in
set_option maxHeartbeats 4000000 in
theorem draw_any (hb : BlockC) (s0 s1 s2 s3 : V) (m : Nat) (hm : m ≤ 2147483647) (w : World) :
    Calls Try.prog 28 #[.agg (u64s [s0, s1, s2, s3]).toArray, .int .i64 (m : Int)] w fun e w' =>
      ∃ A c, e = .returned (.slice A m c) ∧ Reads w' w'.heap.size 1 A m (u64s ((seeded s0 s1 s2 s3).list m)) ∧ Below w.heap.size w w' := by
  obtain ⟨i0, hi0, hz0, hz1, hz2⟩ := info_parts info29
  have h30 := Try.underlying30
  have bld := buildS
  have cI := fun g w h => init64_any hb g (u64s (List.replicate 32 0)) (by simp [u64s]) (.int .u64 0) (.int .u64 0) (.int .u64 0) (.int .u64 0) (.int .u32 0) (.int .u32 0) (.int .u32 0) s0 s1 s2 s3 w h
  rw [← ZS_st] at cI
  have hok0 := seeded_ok s0 s1 s2 s3
  generalize seeded s0 s1 s2 s3 = x at cI hok0 ⊢
  have CI := Lib.hid cI
  clear cI
  go_enter Try.func28, Try.ntmps28
  go_wp2_with (first
    | (refine wpList_box rfl 30 _ rfl _ (u64s [s0, s1, s2, s3]) rfl rfl ?_; intro gs w1 hgs hlt1 hS1 hb1; (try go_frame))
    | (refine wpList_build0 rfl 68 rfl _ bld ?_; (try go_frame))
    | (refine wpList_box rfl 68 _ rfl _ ZS rfl rfl ?_; intro g w3 hg hlt3 hG3 hb3; (try go_frame); have hS3 := hS1.call hb3; have e3 := below_call hb1 hb1.size hb3; have c3 := CI.out g w3 hG3; have lg : w.heap.size ≤ g := (by have := hb1.size; omega))
    | (refine wpList_load_all rfl 30 _ rfl gs rfl hS3 h30 rfl (by kernel_rfl) ?_)
    | (go_at_call 41; refine c3.mono ?_; rintro e w4 ⟨rfl, hG4, hp4⟩; have e4 := below_past e3 lg e3.size hp4))
  have hown0 : w4.ownsRow w.heap.size 29 1 (.slice none 0 0) 0 [] := ⟨rfl, .inl ⟨rfl, rfl⟩⟩
  have hG4' : B w4 g 68 (x.it 0).cells := hG4
  clear hG3 hS1 hS3 hb1 hb3 e3 c3 hp4 hG4
  go_loopw [6, 15] (fun out i wr => ∃ k : Nat, k ≤ m ∧ i = .int .i64 (k : Int) ∧ B wr g 68 (x.it k).cells ∧ wr.ownsRow w.heap.size 29 1 out k (u64s (x.list k)) ∧ Below w.heap.size w wr) (fun _ i _ => m - (intOf i).toNat)
  case atStart => exact ⟨0, Nat.zero_le _, rfl, hG4', hown0, e4⟩
  case round =>
    clear hG4' hown0 e4
    obtain ⟨k, hk, rfl, hB, hown, hbel⟩ := hrel
    by_cases hlt : k < m
    · have hlt' : (k : Int) < (m : Int) := by omega
      have hm' : (m : Int) ≤ 2147483647 := by omega
      have hyok := G.it_ok hok0 k
      have hnx : x.it (k + 1) = (x.it k).drawn := rfl
      have hl1 : u64s (x.list (k + 1)) = u64s (x.list k) ++ [.int .u64 (n64 (x.it k).told)] := by rw [G.list_succ, u64s_append]; rfl
      have HNX := Lib.hid hnx
      have HL1 := Lib.hid hl1
      clear hnx hl1
      generalize x.it k = y at hB hyok HNX HL1
      generalize u64s (x.list k) = L at hown HL1
      have sr := hbel.size
      by_cases hi : y.i < y.n
      · have hdr : y.drawn = y.adv := by unfold G.drawn; rw [show y.some_ = y from if_pos hi]
        have htd : y.told = y.val := by unfold G.told; rw [show y.some_ = y from if_pos hi]
        rw [hdr] at HNX
        rw [htd] at HL1
        clear hdr htd
        have cN := fun w h => next_some g y hi w h
        have CN := Lib.hid cN
        clear cN
        go_wp2_with (first
          | (go_at_call 42; refine (CN.out _ hB).mono ?_; rintro e w5 ⟨rfl, hB5, hO5⟩; have hown5 := own_only hown hB (by decide) hO5; have b5 := hbel.trans (hO5.below _ lg))
          | (at_builtin; refine wpList_append_any _ rfl (.tmp 31) (.tmp 33) _ rfl w.heap.size 29 i0 _ 1 8 Try.underlying46 hi0 hz0 hz1 hz2 rfl (by omega) _ k L rfl (World.ownsRow.alloc hown5 _) (w5.heap.size + 1) (some ⟨w5.heap.size, 0, none⟩) 1 1 [.int .u64 (n64 y.val)] rfl (new_one w5 _ _) (by simp [Value.oneCell']) (by simp only [maxLen]; omega) (by omega) (by have := b5.size; simp; omega) ?_; intro v7 w7 hown7 hg7 hat7))
        go_roundw
        case rel =>
          have hoa := World.ownsRow.alloc hown5 (.cells #[.int .u64 (n64 y.val)] 29)
          have hba := hB5.alloc (.cells #[.int .u64 (n64 y.val)] 29)
          refine ⟨k + 1, by omega, by go_num, ?_, ?_, (b5.alloc b5.size _).grown hg7 (by have := b5.size; simp; omega) (own_base hoa)⟩
          · rw [HNX.out]; exact hba.grown hg7 (own_ne hoa hba (by decide))
          · rw [HL1.out]; exact hown7
        case measure => simp [intOf]; omega
      · have hdr : y.drawn = y.refill.adv := by unfold G.drawn; rw [show y.some_ = y.refill from if_neg hi]
        have htd : y.told = y.refill.val := by unfold G.told; rw [show y.some_ = y.refill from if_neg hi]
        rw [hdr] at HNX
        rw [htd] at HL1
        clear hdr htd
        have CN := Lib.hid (fun w h => next_none g y hi w h)
        have CR := Lib.hid (fun w h => refill_any hb g y hyok w h)
        have CM := Lib.hid (fun w h => next_some g y.refill y.refill_lt w h)
        generalize y.refill = z at HNX HL1 CR CM
        go_wp2_with (first
          | (go_at_call 42; refine (CN.out _ hB).mono ?_; rintro e w5 ⟨rfl, rfl⟩)
          | (go_at_call 43; refine (CR.out _ hB).mono ?_; rintro e w5 ⟨rfl, hB5, hp5⟩; have hown5 := own_past hown hB (by decide) hp5; have b5 := below_past hbel lg sr hp5)
          | (go_at_call 42; refine (CM.out _ hB5).mono ?_; rintro e w6 ⟨rfl, hB6, hO6⟩; have hown6 := own_only hown5 hB5 (by decide) hO6; have b6 := b5.trans (hO6.below _ lg))
          | (at_builtin; refine wpList_append_any _ rfl (.tmp 31) (.tmp 33) _ rfl w.heap.size 29 i0 _ 1 8 Try.underlying46 hi0 hz0 hz1 hz2 rfl (by omega) _ k L rfl (World.ownsRow.alloc hown6 _) (w6.heap.size + 1) (some ⟨w6.heap.size, 0, none⟩) 1 1 [.int .u64 (n64 z.val)] rfl (new_one w6 _ _) (by simp [Value.oneCell']) (by simp only [maxLen]; omega) (by omega) (by have := b6.size; simp; omega) ?_; intro v7 w7 hown7 hg7 hat7))
        go_roundw
        case rel =>
          have hoa := World.ownsRow.alloc hown6 (.cells #[.int .u64 (n64 z.val)] 29)
          have hba := hB6.alloc (.cells #[.int .u64 (n64 z.val)] 29)
          refine ⟨k + 1, by omega, by go_num, ?_, ?_, (b6.alloc b6.size _).grown hg7 (by have := b6.size; simp; omega) (own_base hoa)⟩
          · rw [HNX.out]; exact hba.grown hg7 (own_ne hoa hba (by decide))
          · rw [HL1.out]; exact hown7
        case measure => simp [intOf]; omega
    · have hge : (m : Int) ≤ (k : Int) := by omega
      have hm' : (m : Int) ≤ 2147483647 := by omega
      have hkm' : k = m := by omega
      have HK := Lib.hid hkm'
      clear hkm'
      go_wp2
      go_ret
      rw [HK.out] at hown
      obtain ⟨A', c', rfl, h1⟩ := reads_of_own hown
      exact ⟨A', c', rfl, h1, hbel⟩
end Go.Proofs.Ytjhpffenlhfilaa.Ch
