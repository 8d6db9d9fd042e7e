/- The walk of the generator's Reseed. -/
import Derived.Test.YtjhpffenlhfilaaWDraw
namespace Go.Proofs.Ytjhpffenlhfilaa.Ch
open Go.RowKit Mem

/-- The first k numbers of four. -/
def seedP (x : G) (k : Nat) : List V := (List.range 4).map fun j => if j < k then x.nth j else 0
theorem seedP_length (x : G) (k : Nat) : (seedP x k).length = 4 := by simp [seedP]
theorem seedP_get (x : G) (k j : Nat) (hj : j < 4) : (seedP x k).getD j 0 = if j < k then x.nth j else 0 := by
  unfold seedP
  rw [List.getD_eq_getElem?_getD, List.getElem?_map, List.getElem?_range hj]
  rfl
theorem seedP_step (x : G) (k : Nat) (_ : k < 4) : (seedP x k).set k (x.nth k) = seedP x (k + 1) := by
  refine List.ext_getElem (by rw [List.length_set, seedP_length, seedP_length]) fun j h1 h2 => ?_
  have hj : j < 4 := by rw [seedP_length] at h2; exact h2
  have e : ∀ (l : List V) (h : j < l.length), l[j] = l.getD j 0 := fun l h => by simp [List.getD, h]
  rw [List.getElem_set, e _ h2, seedP_get x (k + 1) j hj]
  by_cases h : k = j
  · subst h; rw [if_pos rfl, if_pos (by omega)]
  · rw [if_neg h, e _ (by rw [seedP_length]; exact hj), seedP_get x k j hj]
    by_cases h3 : j < k
    · rw [if_pos h3, if_pos (by omega)]
    · rw [if_neg h3, if_neg (by omega)]
theorem seedP_end (x : G) : seedP x 4 = [x.nth 0, x.nth 1, x.nth 2, x.nth 3] := rfl
theorem reseed_eq (x : G) : x.reseed = seeded (x.nth 0) (x.nth 1) (x.nth 2) (x.nth 3) := rfl
/-- One more round is wanted. -/
def lack (g : Nat) (w : World) : Nat := match w.cell? ⟨g, 36, none⟩, w.cell? ⟨g, 37, none⟩ with
  | some a, some b => if intOf a < intOf b then 0 else 1
  | _, _ => 0
theorem lack_eq {g : Nat} {w : World} {x : G} (hB : B w g 68 x.cells) : lack g w = if x.i < x.n then 0 else 1 := by
  have f36 : w.cell? ⟨g, 36, none⟩ = some (.int .u32 (x.i : Int)) := (hB.cell 36).trans (st_get36 x.bufs_length _ _ _ _ _ _ _)
  have f37 : w.cell? ⟨g, 37, none⟩ = some (.int .u32 (x.n : Int)) := (hB.cell 37).trans (st_get37 x.bufs_length _ _ _ _ _ _ _)
  unfold lack
  rw [f36, f37]
  show (if (x.i : Int) < (x.n : Int) then 0 else 1) = _
  by_cases h : x.i < x.n
  · rw [if_pos h, if_pos (by omega)]
  · rw [if_neg h, if_neg (by omega)]

set_option maxRecDepth 100000 in
set_option maxHeartbeats 4000000 in
theorem reseed_any (hb : BlockC) (g : Nat) (x : G) (hok : x.ok) (w : World) (hB : B w g 68 x.cells) :
    Calls Try.prog 44 #[.pointer (some ⟨g, 0, none⟩)] w fun e w' =>
      e = .returned (.tuple #[]) ∧ B w' g 68 x.reseed.cells ∧ Past g w w' := by
  obtain ⟨ti, hti, hz, hsz⟩ := row_of zero30
  have hz' : ti.zero = some (.agg Z4.toArray) := hz
  have h30 := Try.underlying30
  have hglt := hB.lt
  have hB0 : B w g 68 (x.it 0).cells := hB
  clear hB
  go_enter Try.func44, Try.ntmps44
  go_wp2_with (refine wpList_alloc rfl 30 rfl ti _ Z4 hti hz' rfl ?_; intro g2 w2 hg2 hlt2 hS2 hb2; (try go_frame); have hB2 := hB0.call hb2)
  have hp2 : Past g w w2 := Past.of_below hb2
  have ng : g ≠ g2 := by omega
  have hS2' : B w2 g2 30 (u64s (seedP x 0)) := hS2
  clear hS2 hb2 hB0
  go_loopw [6] (fun i wr => ∃ k : Nat, k ≤ 4 ∧ i = .int .i64 (k : Int) ∧ B wr g 68 (x.it k).cells ∧ B wr g2 30 (u64s (seedP x k)) ∧ Past g w wr) (fun i _ => 4 - (intOf i).toNat)
  case atStart => exact ⟨0, Nat.zero_le _, rfl, hB2, hS2', hp2⟩
  case round =>
    clear hB2 hS2' hp2
    obtain ⟨k, hk, rfl, hB, hS, hp⟩ := hrel
    by_cases hk4 : k < 4
    · have hk' : (k : Int) < 4 := by omega
      have hyok := G.it_ok hok k
      have hst := seedP_step x k hk4
      have hnx : x.it (k + 1) = (x.it k).drawn := rfl
      have hnt : x.nth k = (x.it k).told := rfl
      rw [hnt] at hst
      have HST := Lib.hid hst
      have HNX := Lib.hid hnx
      have hlen : k < (u64s (seedP x k)).length := by rw [u64s_length, seedP_length]; exact hk4
      have HLEN := Lib.hid hlen
      clear hst hnx hnt hlen
      generalize x.it k = y at hB hyok HST HNX
      have hsl : ∀ z, z = y ∨ (z = y.refill ∧ ¬ y.i < y.n) → z.ok := fun z hz => by
        rcases hz with rfl | ⟨rfl, _⟩
        · exact hyok
        · exact G.refill_ok hyok
      go_wp2_with fail
      obtain ⟨wo, rfl⟩ : ∃ wo : World, wo = wr := ⟨_, rfl⟩
      go_loopw [] (fun wr => ∃ z : G, (z = y ∨ (z = y.refill ∧ ¬ y.i < y.n)) ∧ B wr g 68 z.cells ∧ B wr g2 30 (u64s (seedP x k)) ∧ Past g w wr) (fun wr => lack g wr)
      case atStart => exact ⟨y, .inl rfl, hB, hS, hp⟩
      case round =>
        clear hB hS hp
        obtain ⟨z, hz, hB, hS, hp⟩ := hrel
        by_cases hi : z.i < z.n
        · have hzs : z = y.some_ := by
            rcases hz with rfl | ⟨rfl, hn⟩
            · exact (if_pos hi).symm
            · exact (if_neg hn).symm
          have hdr : y.drawn = z.adv := by unfold G.drawn; rw [hzs]
          have htd : y.told = z.val := by unfold G.told; rw [hzs]
          rw [hdr] at HNX
          rw [htd] at HST
          clear hdr htd hzs hz
          have CN := Lib.hid (fun w h => next_some g z hi w h)
          go_wp2_with (first
            | (go_at_call 42; refine (CN.out _ hB).mono ?_; rintro e w5 ⟨rfl, hB5, hO5⟩; have hS5 := hS.only hO5 ng.symm; have hp5 := hp.only hO5)
            | (refine wpList_store_one rfl 29 _ _ rfl g2 k rfl hS5 (.int .u64 (n64 z.val)) rfl HLEN.out rfl (by kernel_rfl) ?_; intro w6 hS6 hO6; (try go_frame); have hB6 := hB5.only hO6 ng; have hp6 := hp5.new hg2 hO6))
          go_roundw
          case rel => exact ⟨k + 1, by omega, by go_num, (by rw [HNX.out]; exact hB6), (by rw [← HST.out, ← u64s_set]; exact hS6), hp6⟩
          case measure => simp [intOf]; omega
        · have hzy : z = y := by
            rcases hz with rfl | ⟨rfl, _⟩
            · rfl
            · exact absurd y.refill_lt hi
          subst hzy
          have CN := Lib.hid (fun w h => next_none g z hi w h)
          have CR := Lib.hid (fun w h => refill_any hb g z hyok w h)
          have hl1 := lack_eq hB
          rw [if_neg hi] at hl1
          have HL1 := Lib.hid hl1
          clear hl1
          go_wp2_with (first
            | (go_at_call 42; refine (CN.out _ hB).mono ?_; rintro e w5 ⟨rfl, rfl⟩)
            | (go_at_call 43; refine (CR.out _ hB).mono ?_; rintro e w5 ⟨rfl, hB5, hp5⟩; have hS5 := B_past hS hp5 ng.symm; have hp6 := hp.trans hp5))
          go_roundw
          case rel => exact ⟨z.refill, .inr ⟨rfl, hi⟩, hB5, hS5, hp6⟩
          case measure => rw [HL1.out, lack_eq hB5, if_pos z.refill_lt]; omega
    · have hk' : (4 : Int) ≤ (k : Int) := by omega
      have hk4' : k = 4 := by omega
      rw [hk4'] at hB hS
      have HK := Lib.hid hk4'
      clear hk4'
      have hyok := G.it_ok hok 4
      have hre := reseed_eq x
      have CI := Lib.hid (fun w h => init64_any hb g (u64s (x.it 4).buf) (x.it 4).bufs_length (.int .u64 (n64 (x.it 4).s0)) (.int .u64 (n64 (x.it 4).s1)) (.int .u64 (n64 (x.it 4).s2)) (.int .u64 (n64 (x.it 4).s3)) (.int .u32 ((x.it 4).i : Int)) (.int .u32 ((x.it 4).n : Int)) (.int .u32 ((4 * (x.it 4).g : Nat) : Int)) (x.nth 0) (x.nth 1) (x.nth 2) (x.nth 3) w h)
      rw [← hre] at CI
      have HRE := Lib.hid hre
      clear hre
      have hS' : B wr g2 30 (u64s [x.nth 0, x.nth 1, x.nth 2, x.nth 3]) := hS
      have hi4 : (Try.prog.info? 30).map (·.size) = some (u64s [x.nth 0, x.nth 1, x.nth 2, x.nth 3]).length := by kernel_rfl
      clear hS
      go_wp2_with (first
        | (refine wpList_load_all rfl 30 _ rfl g2 rfl hS' h30 rfl hi4 ?_)
        | (go_at_call 41; refine (CI.out _ hB).mono ?_; rintro e w5 ⟨rfl, hB5, hp5⟩))
      go_end0
      exact ⟨rfl, hB5, hp.trans hp5⟩
end Go.Proofs.Ytjhpffenlhfilaa.Ch
