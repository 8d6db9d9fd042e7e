/- The walk of the thin package's Run. -/
import Derived.Test.YtjhpffenlhfilaaRun
import Derived.Test.YtjhpffenlhfilaaWReseed
import Derived.Test.YtjhpffenlhfilaaWClone
namespace Go.Proofs.Ytjhpffenlhfilaa.Ch
open Go.RowKit Mem

section
variable {P : Program}
theorem results_tmp_block {fn : Func} {p q : Tmp} {ty : TypeId} (h : fn.results = #[.tmp q, .cell p ty]) (tmps : Array Value) (w : World) (g : Nat) (t : TypeId) (l : List Value) (d : TypeDesc)
    (hp : tmps.getD p undef = .pointer (some ⟨g, 0, none⟩)) (hg : B w g t l)
    (hu : P.underlying ty = some d) (hd : d.isRow = true) (hi : (P.info? ty).map (·.size) = some l.length) :
    (results fn tmps).run P w = .ok (.tuple #[tmps.getD q undef, .agg l.toArray]) w := by
  have hp' : tmps[p]?.getD undef = .pointer (some ⟨g, 0, none⟩) := by simpa using hp
  have hl := run_loadVar_row (P := P) w g t ty l.toArray (0, 0) d hg hu (by cases d <;> simp_all) (by simpa using hi)
  simp [results, h, hp', asAddr, hl]
end

theorem info40 : (Try.prog.info? 40).map (fun i => (i.zero, i.size, i.bytes)) = some (some (.agg #[.bool false, .int .u64 0, .slice none 0 0]), 3, 40) := by kernel_rfl
def ZA : List Value := [.bool false, .int .u64 0, .slice none 0 0]
theorem buildA (w : World) : (Instr.build 40 #[]).run Try.prog w = .ok (.agg ZA.toArray) w := by kernel_rfl
theorem ZA_one : ∀ v ∈ ZA, v.oneCell' = true := by
  intro v hv
  simp only [ZA, List.mem_cons, List.not_mem_nil, or_false] at hv
  rcases hv with rfl | rfl | rfl <;> rfl
theorem new_three (w : World) (t : TypeId) (u v x : Value) : Reads (w.alloc (.cells #[u, v, x] t)) (w.heap.size + 1) 3 (some ⟨w.heap.size, 0, none⟩) 1 [u, v, x] := by
  refine ⟨rfl, fun _ => ⟨_, rfl, by simp, fun j y hy => ?_⟩⟩
  match j, hy with
  | 0, hy => injection hy with hy; subst hy; simp [Addr.add]
  | 1, hy => injection hy with hy; subst hy; simp [Addr.add]
  | 2, hy => injection hy with hy; subst hy; simp [Addr.add]
theorem reads_of_B {w : World} {g n : Nat} {t : TypeId} {l : List Value} (h : B w g t l) (hl : l.length = n) : Reads w w.heap.size 1 (some ⟨g, 0, none⟩) n l :=
  ⟨by omega, fun _ => ⟨_, rfl, h.lt, fun j u hu => by rw [Addr.add_mid, Nat.zero_add, h.cell]; exact hu⟩⟩
theorem own_lt {w : World} {base n size : Nat} {e : TypeId} {v : Value} {xs : List Value} (h : w.ownsRow base e size v n xs) : ∀ k, v.ownBlock = some k → k < w.heap.size := by
  intro k hk
  rcases h.2 with ⟨rfl, _⟩ | ⟨g', cap, cur, rfl, hg, hh, _⟩
  · simp [Value.ownBlock] at hk
  · obtain rfl : g' = k := by simpa [Value.ownBlock] using hk
    rcases Nat.lt_or_ge g' w.heap.size with hlt | hge
    · exact hlt
    · rw [Array.getElem?_eq_none hge] at hh; cases hh
theorem own_only' {w w' : World} {g base n size : Nat} {e : TypeId} {v : Value} {xs : List Value} (h : w.ownsRow base e size v n xs) (hne : ∀ k, v.ownBlock = some k → k ≠ g) (hO : Only g w w') : w'.ownsRow base e size v n xs :=
  own_same h fun g' he _ => hO.block g' (hne g' he)
def steps64 (L : List Int) : List Value := L.map (Value.int .i64)
theorem steps64_get (L : List Int) (k : Nat) (h : k < L.length) : (steps64 L)[k]? = some (.int .i64 (L.getD k 0)) := by simp [steps64, List.getD, h]

/-- The last answer's bytes, where the last step is Marshal. -/
def LastD (w : World) (x : G) (L : List Int) (Ds : List Value) (base k : Nat) : Prop :=
  ∀ j, j + 1 = k → L.getD j 0 = 3 → ∃ g c r, Ds[j]? = some (.slice (some ⟨g, 0, none⟩) 48 c) ∧ base ≤ g ∧ 48 ≤ c ∧ B w g 5 (b8s (x.run (L.take j)).mar ++ r)

set_option maxRecDepth 100000 in
set_option maxHeartbeats 20000000 in
theorem run_any (hb : BlockC) (s0 s1 s2 s3 : V) (A : Option Addr) (m cap : Nat) (L : List Int) (b : Nat) (w : World) (hr : Reads w b 1 A m (steps64 L)) (hbs : b ≤ w.heap.size) (hm : m ≤ 100000) :
    Calls Try.prog 24 #[.agg (u64s [s0, s1, s2, s3]).toArray, .slice A m cap] w fun e w' =>
      ∃ v Ds, e = .returned (.tuple #[v, .agg ((seeded s0 s1 s2 s3).run L).parts.toArray]) ∧ Ds.length = m ∧ (∀ d ∈ Ds, d.oneCell' = true) ∧ w'.ownsRow w.heap.size 40 3 v m (anss (seeded s0 s1 s2 s3) L Ds) ∧
        LastD w' (seeded s0 s1 s2 s3) L Ds w.heap.size m ∧ Below w.heap.size w w' := by
  obtain ⟨i0, hi0, hz0, hz1, hz2⟩ := info_parts info40
  obtain ⟨ta, hta, hya, hsa, _⟩ := info_parts info40
  obtain ⟨tk, htk, hx, _⟩ := row_of zero35
  have h30 := Try.underlying30
  have h35 := Try.underlying35
  have h40 := Try.underlying40
  have bld := buildS
  have blA := buildA
  have hLl : L.length = m := by have := hr.1; simpa [steps64] using this
  have iZA : (Try.prog.info? 40).map (·.size) = some ZA.length := by kernel_rfl
  have iA : (Try.prog.info? 40).map (·.size) = some 3 := by kernel_rfl
  have cI := fun g w h => init64_any hb g (u64s (List.replicate 32 0)) (by simp [u64s]) (.int .u64 0) (.int .u64 0) (.int .u64 0) (.int .u64 0) (.int .u32 0) (.int .u32 0) (.int .u32 0) s0 s1 s2 s3 w h
  rw [← ZS_st] at cI
  have hok0 := seeded_ok s0 s1 s2 s3
  generalize seeded s0 s1 s2 s3 = x at cI hok0 ⊢
  have CI := Lib.hid cI
  have HLL := Lib.hid hLl
  clear cI hLl
  go_enter Try.func24, Try.ntmps24
  go_wp2_with (first
    | (refine wpList_box rfl 30 _ rfl _ (u64s [s0, s1, s2, s3]) rfl rfl ?_; intro gs w1 hgs hlt1 hS1 hb1; (try go_frame))
    | (refine wpList_alloc rfl 35 rfl tk _ Z39 htk hx rfl ?_; intro gr w2 hgr hlt2 hR2 hb2; (try go_frame); have hS2 := hS1.call hb2; have e2 := below_call hb1 hb1.size hb2)
    | (refine wpList_build0 rfl 68 rfl _ bld ?_; (try go_frame))
    | (refine wpList_box rfl 68 _ rfl _ ZS rfl rfl ?_; intro g w3 hg hlt3 hG3 hb3; (try go_frame); have hS3 := hS2.call hb3; have hR3 := hR2.call hb3; have e3 := below_call e2 e2.size hb3; have c3 := CI.out g w3 hG3; have lg : w.heap.size ≤ g := (by have := e2.size; omega); have nrg : gr ≠ g := (by have := hR2.lt; omega); have lgr : w.heap.size ≤ gr := (by have := hb1.size; omega))
    | (refine wpList_load_all rfl 30 _ rfl gs rfl hS3 h30 rfl (by kernel_rfl) ?_)
    | (go_at_call 41; refine c3.mono ?_; rintro e w4 ⟨rfl, hG4, hp4⟩; have e4 := below_past e3 lg e3.size hp4; have hR4 := B_past hR3 hp4 nrg))
  have hown0 : w4.ownsRow w.heap.size 40 3 (.slice none 0 0) 0 (anss x (L.take 0) []) := ⟨rfl, .inl ⟨rfl, rfl⟩⟩
  have hG4' : B w4 g 68 (x.run (L.take 0)).cells := hG4
  have hr4 : Reads w4 b 1 A m (steps64 L) := (hr.below (e4.mono hbs))
  have hL0 : LastD w4 x L [] w.heap.size 0 := fun j hj => by omega
  clear hG3 hS1 hS3 hb1 hb3 e3 c3 hp4 hG4 hS2 hR2 hR3 hb2 e2 hr hgs hlt1 hgr hlt2 hg hlt3
  go_loopw [6, 7, 19] (fun sp out i wr => ∃ (k g : Nat) (Ds : List Value), k ≤ m ∧ i = .int .i64 (k : Int) ∧ sp = .pointer (some ⟨g, 0, none⟩) ∧ w.heap.size ≤ g ∧ Ds.length = k ∧ (∀ d ∈ Ds, d.oneCell' = true) ∧ B wr g 68 (x.run (L.take k)).cells ∧
      wr.ownsRow w.heap.size 40 3 out k (anss x (L.take k) Ds) ∧ LastD wr x L Ds w.heap.size k ∧ Reads wr b 1 A m (steps64 L) ∧ B wr gr 35 Z39 ∧ Below w.heap.size w wr) (fun _ _ i _ => m - (intOf i).toNat)
  case atStart => exact ⟨0, g, [], Nat.zero_le _, rfl, rfl, lg, rfl, (fun d hd => by cases hd), hG4', hown0, hL0, hr4, hR4, e4⟩
  case round =>
    clear hG4' hown0 hL0 hr4 hR4 e4 lg nrg
    obtain ⟨k, g, Ds, hk, rfl, rfl, lg, hDs, hone, hB, hown, hlast, hrd, hR, hbel⟩ := hrel
    by_cases hlt : k < m
    · have hlt' : (k : Int) < (m : Int) := by omega
      have hm' : (m : Int) ≤ 100000 := by omega
      have hyok := G.run_ok hok0 (L.take k)
      have htk : L.take (k + 1) = L.take k ++ [L.getD k 0] := by
        rw [List.take_succ_eq_append_getElem (by rw [HLL.out]; exact hlt)]
        congr 2
        simp [List.getD, HLL.out, hlt]
      have hrn : x.run (L.take (k + 1)) = (x.run (L.take k)).stepG (L.getD k 0) := by rw [htk, G.run_append]; rfl
      have han : ∀ d, anss x (L.take (k + 1)) (Ds ++ [d]) = anss x (L.take k) Ds ++ ansOf (x.run (L.take k)) (L.getD k 0) d := fun d => by
        rw [htk, anss_append x _ _ _ _ (by rw [hDs, List.length_take, HLL.out]; omega)]
        rfl
      have honx : ∀ d : Value, d.oneCell' = true → ∀ e ∈ Ds ++ [d], e.oneCell' = true := fun d hd e he => by
        rcases List.mem_append.1 he with h | h
        · exact hone e h
        · rw [List.mem_singleton.1 h]; exact hd
      have hdl : ∀ d : Value, (Ds ++ [d])[k]? = some d := fun d => by rw [List.getElem?_append_right (by omega), hDs, Nat.sub_self]; rfl
      have hdln : ∀ d : Value, (Ds ++ [d]).length = k + 1 := fun d => by rw [List.length_append, hDs]; rfl
      have HLASTN : ∀ (w' : World) (d : Value), L.getD k 0 ≠ 3 → LastD w' x L (Ds ++ [d]) w.heap.size (k + 1) := fun w' d hn j hj h3 => by
        obtain rfl : j = k := by omega
        exact absurd h3 hn
      have HLAST3 : ∀ (w' : World) (gq cq : Nat) (r : List Value), w.heap.size ≤ gq → 48 ≤ cq → B w' gq 5 (b8s (x.run (L.take k)).mar ++ r) → LastD w' x L (Ds ++ [.slice (some ⟨gq, 0, none⟩) 48 cq]) w.heap.size (k + 1) := fun w' gq cq r h1 h2 h3 j hj _ => by
        obtain rfl : j = k := by omega
        exact ⟨gq, cq, r, hdl _, h1, h2, h3⟩
      obtain ⟨ad, us, hA, _, hus, hcs⟩ := hrd.at_ hlt
      rw [steps64_get L k (by rw [HLL.out]; exact hlt)] at hus
      obtain rfl := Option.some.inj hus
      subst hA
      clear hus hlast htk
      have HAN := Lib.hid han
      have HRN := Lib.hid hrn
      have HHL3 := Lib.hid HLAST3
      have HHLN := Lib.hid HLASTN
      have HONX := Lib.hid honx
      have HDLN := Lib.hid hdln
      clear han hrn HLAST3 HLASTN honx hdl hdln hone hDs
      generalize x.run (L.take k) = y at hB hyok HAN HRN HHL3
      generalize anss x (L.take k) Ds = Q at hown HAN
      generalize L.getD k 0 = s at hcs HAN HRN HHLN
      have sr := hbel.size
      have nrg : gr ≠ g := hR.ne_ hB (by decide)
      by_cases hc0 : s = 0
      · have hsg : y.stepG s = if y.i < y.n then y.adv else y := if_pos hc0
        have hs0 : (s == 0) = true := beq_iff_eq.2 hc0
        by_cases hi : y.i < y.n
        · have hsg' : y.stepG s = y.adv := by rw [hsg, if_pos hi]
          have hans := Lib.hid (show ansOf y s (.slice none 0 0) = [.bool true, .int .u64 (n64 y.val), .slice none 0 0] by unfold ansOf G.stepK G.stepV; rw [if_pos hc0, if_pos ⟨hc0, hi⟩, decide_eq_true hi])
          have hn3 : s ≠ 3 := by omega
          have HSG := Lib.hid hsg'
          have HN3 := Lib.hid hn3
          have CN := Lib.hid (fun w h => next_some g y hi w h)
          clear hsg hsg' hc0 hn3
          have hOne : ∀ v ∈ ([.bool true, .int .u64 (n64 y.val), .slice none 0 0] : List Value), v.oneCell' = true := by
            intro v hv
            simp only [List.mem_cons, List.not_mem_nil, or_false] at hv
            rcases hv with rfl | rfl | rfl <;> rfl
          go_wp2_with (first
            | (refine wpList_build0 rfl 40 rfl _ blA ?_; (try go_frame))
            | (refine wpList_alloc rfl 40 rfl ta _ ZA hta hya rfl ?_; intro ga w5 hga hlt5 hA5 hb5; (try go_frame); have hB5 := hB.call hb5; have hown5 := own_call hown hb5; have hrd5 := hrd.below (hb5.mono (by omega)); have hR5 := hR.call hb5; have e5 := below_call hbel sr hb5; have nag : ga ≠ g := (by have := hB.lt; omega); have nar : ga ≠ gr := (by have := hR.lt; omega); have lga : w.heap.size ≤ ga := (by omega))
            | (refine wpList_store_all rfl 40 _ _ rfl ga rfl hA5 ZA rfl rfl ZA_one iZA ?_; intro w6 hA6 hO6; (try go_frame); have hB6 := hB5.only hO6 nag.symm; have hno := (fun kk hkk => Nat.ne_of_lt (Nat.lt_of_lt_of_le (own_lt hown kk hkk) hga)); have hown6 := own_only' hown5 hno hO6; have hrd6 := hrd5.below (hO6.below b (by omega)); have hR6 := hR5.only hO6 nar.symm; have e6 := e5.trans (hO6.below _ lga))
            | (go_at_call 42; refine (CN.out _ hB6).mono ?_; rintro e w7 ⟨rfl, hB7, hO7⟩; have hA7 := hA6.only hO7 nag; have hown7 := own_only hown6 hB6 (by decide) hO7; have hrd7 := hrd6.below (hO7.below b (by omega)); have hR7 := hR6.only hO7 nrg; have e7 := e6.trans (hO7.below _ lg))
            | (refine wpList_store_one rfl 29 _ _ rfl ga 1 rfl hA7 (.int .u64 (n64 y.val)) rfl (by simp [ZA]) rfl (by kernel_rfl) ?_; intro w8 hA8 hO8; (try go_frame); have hB8 := hB7.only hO8 nag.symm; have hown8 := own_only' hown7 hno hO8; have hrd8 := hrd7.below (hO8.below b (by omega)); have hR8 := hR7.only hO8 nar.symm; have e8 := e7.trans (hO8.below _ lga))
            | (refine wpList_store_one rfl 4 _ _ rfl ga 0 rfl hA8 (.bool true) rfl (by simp [ZA]) rfl (by kernel_rfl) ?_; intro w9 hA9 hO9; (try go_frame); have hB9 := hB8.only hO9 nag.symm; have hown9 := own_only' hown8 hno hO9; have hrd9 := hrd8.below (hO9.below b (by omega)); have hR9 := hR8.only hO9 nar.symm; have e9 := e8.trans (hO9.below _ lga))
            | (refine wpList_load_all rfl 40 _ rfl ga rfl (show B w9 ga 40 ([.bool true, .int .u64 (n64 y.val), .slice none 0 0]) from hA9) h40 rfl iA ?_)
            | (at_builtin; refine wpList_append_any _ rfl (.tmp 63) (.tmp 65) _ rfl w.heap.size 40 i0 _ 3 40 Try.underlying32 hi0 hz0 hz1 hz2 rfl (by omega) _ k Q rfl (World.ownsRow.alloc hown9 _) (w9.heap.size + 1) (some ⟨w9.heap.size, 0, none⟩) 1 1 ([.bool true, .int .u64 (n64 y.val), .slice none 0 0]) rfl (new_three w9 _ _ _ _) hOne (by simp only [maxLen]; omega) (by omega) (by have := e9.size; simp; omega) ?_; intro vF wF hownF hgF hatF))
          go_roundw
          case rel =>
            have hoa := World.ownsRow.alloc hown9 (.cells ([.bool true, .int .u64 (n64 y.val), .slice none 0 0] : List Value).toArray 40)
            have hBa := hB9.alloc (.cells ([.bool true, .int .u64 (n64 y.val), .slice none 0 0] : List Value).toArray 40)
            have hRa := hR9.alloc (.cells ([.bool true, .int .u64 (n64 y.val), .slice none 0 0] : List Value).toArray 40)
            have hra := hrd9.alloc (show b ≤ w9.heap.size by have := e9.size; omega) (.cells ([.bool true, .int .u64 (n64 y.val), .slice none 0 0] : List Value).toArray 40)
            refine ⟨k + 1, g, Ds ++ [.slice none 0 0], by omega, by go_num, rfl, lg, HDLN.out _, HONX.out _ rfl, ?_, ?_, HHLN.out _ _ HN3.out, ?_, ?_, (e9.alloc e9.size _).grown hgF (by have := e9.size; simp; omega) (own_base hoa)⟩
            · rw [HRN.out, HSG.out]; exact hBa.grown hgF (own_ne hoa hBa (by decide))
            · rw [HAN.out, hans.out]; exact hownF
            · exact hra.grown hgF (by have := e9.size; simp; omega) (fun q hq => by have := own_base hoa q hq; omega)
            · exact hRa.grown hgF (own_ne hoa hRa (by decide))
          case measure => simp [intOf]; omega
        · have hsg' : y.stepG s = y := by rw [hsg, if_neg hi]
          have hans := Lib.hid (show ansOf y s (.slice none 0 0) = [.bool false, .int .u64 (0), .slice none 0 0] by unfold ansOf G.stepK G.stepV; rw [if_pos hc0, if_neg (fun h => hi h.2), decide_eq_false hi]; rfl)
          have hn3 : s ≠ 3 := by omega
          have HSG := Lib.hid hsg'
          have HN3 := Lib.hid hn3
          have CN := Lib.hid (fun w h => next_none g y hi w h)
          clear hsg hsg' hc0 hn3
          have hOne : ∀ v ∈ ([.bool false, .int .u64 (0), .slice none 0 0] : List Value), v.oneCell' = true := by
            intro v hv
            simp only [List.mem_cons, List.not_mem_nil, or_false] at hv
            rcases hv with rfl | rfl | rfl <;> rfl
          go_wp2_with (first
            | (refine wpList_build0 rfl 40 rfl _ blA ?_; (try go_frame))
            | (refine wpList_alloc rfl 40 rfl ta _ ZA hta hya rfl ?_; intro ga w5 hga hlt5 hA5 hb5; (try go_frame); have hB5 := hB.call hb5; have hown5 := own_call hown hb5; have hrd5 := hrd.below (hb5.mono (by omega)); have hR5 := hR.call hb5; have e5 := below_call hbel sr hb5; have nag : ga ≠ g := (by have := hB.lt; omega); have nar : ga ≠ gr := (by have := hR.lt; omega); have lga : w.heap.size ≤ ga := (by omega))
            | (refine wpList_store_all rfl 40 _ _ rfl ga rfl hA5 ZA rfl rfl ZA_one iZA ?_; intro w6 hA6 hO6; (try go_frame); have hB6 := hB5.only hO6 nag.symm; have hno := (fun kk hkk => Nat.ne_of_lt (Nat.lt_of_lt_of_le (own_lt hown kk hkk) hga)); have hown6 := own_only' hown5 hno hO6; have hrd6 := hrd5.below (hO6.below b (by omega)); have hR6 := hR5.only hO6 nar.symm; have e6 := e5.trans (hO6.below _ lga))
            | (go_at_call 42; refine (CN.out _ hB6).mono ?_; rintro e w7 ⟨rfl, rfl⟩)
            | (refine wpList_store_one rfl 29 _ _ rfl ga 1 rfl hA6 (.int .u64 0) rfl (by simp [ZA]) rfl (by kernel_rfl) ?_; intro w8 hA8 hO8; (try go_frame); have hB8 := hB6.only hO8 nag.symm; have hown8 := own_only' hown6 hno hO8; have hrd8 := hrd6.below (hO8.below b (by omega)); have hR8 := hR6.only hO8 nar.symm; have e8 := e6.trans (hO8.below _ lga))
            | (refine wpList_store_one rfl 4 _ _ rfl ga 0 rfl hA8 (.bool false) rfl (by simp [ZA]) rfl (by kernel_rfl) ?_; intro w9 hA9 hO9; (try go_frame); have hB9 := hB8.only hO9 nag.symm; have hown9 := own_only' hown8 hno hO9; have hrd9 := hrd8.below (hO9.below b (by omega)); have hR9 := hR8.only hO9 nar.symm; have e9 := e8.trans (hO9.below _ lga))
            | (refine wpList_load_all rfl 40 _ rfl ga rfl (show B w9 ga 40 ([.bool false, .int .u64 (0), .slice none 0 0]) from hA9) h40 rfl iA ?_)
            | (at_builtin; refine wpList_append_any _ rfl (.tmp 63) (.tmp 65) _ rfl w.heap.size 40 i0 _ 3 40 Try.underlying32 hi0 hz0 hz1 hz2 rfl (by omega) _ k Q rfl (World.ownsRow.alloc hown9 _) (w9.heap.size + 1) (some ⟨w9.heap.size, 0, none⟩) 1 1 ([.bool false, .int .u64 (0), .slice none 0 0]) rfl (new_three w9 _ _ _ _) hOne (by simp only [maxLen]; omega) (by omega) (by have := e9.size; simp; omega) ?_; intro vF wF hownF hgF hatF))
          go_roundw
          case rel =>
            have hoa := World.ownsRow.alloc hown9 (.cells ([.bool false, .int .u64 (0), .slice none 0 0] : List Value).toArray 40)
            have hBa := hB9.alloc (.cells ([.bool false, .int .u64 (0), .slice none 0 0] : List Value).toArray 40)
            have hRa := hR9.alloc (.cells ([.bool false, .int .u64 (0), .slice none 0 0] : List Value).toArray 40)
            have hra := hrd9.alloc (show b ≤ w9.heap.size by have := e9.size; omega) (.cells ([.bool false, .int .u64 (0), .slice none 0 0] : List Value).toArray 40)
            refine ⟨k + 1, g, Ds ++ [.slice none 0 0], by omega, by go_num, rfl, lg, HDLN.out _, HONX.out _ rfl, ?_, ?_, HHLN.out _ _ HN3.out, ?_, ?_, (e9.alloc e9.size _).grown hgF (by have := e9.size; simp; omega) (own_base hoa)⟩
            · rw [HRN.out, HSG.out]; exact hBa.grown hgF (own_ne hoa hBa (by decide))
            · rw [HAN.out, hans.out]; exact hownF
            · exact hra.grown hgF (by have := e9.size; simp; omega) (fun q hq => by have := own_base hoa q hq; omega)
            · exact hRa.grown hgF (own_ne hoa hRa (by decide))
          case measure => simp [intOf]; omega
      · have hs0 : (s == 0) = false := beq_eq_false_iff_ne.2 hc0
        by_cases hc1 : s = 1
        · have hs1 : (s == 1) = true := beq_iff_eq.2 hc1
          have hsg' : y.stepG s = y.refill := by unfold G.stepG; rw [if_neg hc0, if_pos hc1]
          have hans := Lib.hid (show ansOf y s (.slice none 0 0) = [.bool true, .int .u64 (0), .slice none 0 0] by unfold ansOf G.stepK G.stepV; rw [if_neg hc0, if_neg (fun h => hc0 h.1), decide_eq_true (.inl hc1)]; rfl)
          have hn3 : s ≠ 3 := by omega
          have HSG := Lib.hid hsg'
          have HN3 := Lib.hid hn3
          have CR := Lib.hid (fun w h => refill_any hb g y hyok w h)
          clear hsg' hc0 hc1 hn3
          have hOne : ∀ v ∈ ([.bool true, .int .u64 (0), .slice none 0 0] : List Value), v.oneCell' = true := by
            intro v hv
            simp only [List.mem_cons, List.not_mem_nil, or_false] at hv
            rcases hv with rfl | rfl | rfl <;> rfl
          go_wp2_with (first
            | (refine wpList_build0 rfl 40 rfl _ blA ?_; (try go_frame))
            | (refine wpList_alloc rfl 40 rfl ta _ ZA hta hya rfl ?_; intro ga w5 hga hlt5 hA5 hb5; (try go_frame); have hB5 := hB.call hb5; have hown5 := own_call hown hb5; have hrd5 := hrd.below (hb5.mono (by omega)); have hR5 := hR.call hb5; have e5 := below_call hbel sr hb5; have nag : ga ≠ g := (by have := hB.lt; omega); have nar : ga ≠ gr := (by have := hR.lt; omega); have lga : w.heap.size ≤ ga := (by omega))
            | (refine wpList_store_all rfl 40 _ _ rfl ga rfl hA5 ZA rfl rfl ZA_one iZA ?_; intro w6 hA6 hO6; (try go_frame); have hB6 := hB5.only hO6 nag.symm; have hno := (fun kk hkk => Nat.ne_of_lt (Nat.lt_of_lt_of_le (own_lt hown kk hkk) hga)); have hown6 := own_only' hown5 hno hO6; have hrd6 := hrd5.below (hO6.below b (by omega)); have hR6 := hR5.only hO6 nar.symm; have e6 := e5.trans (hO6.below _ lga))
            | (go_at_call 43; refine (CR.out _ hB6).mono ?_; rintro e w7 ⟨rfl, hB7, hp7⟩; have hA7 := B_past hA6 hp7 nag; have hown7 := own_past hown6 hB6 (by decide) hp7; have hrd7 := hrd6.below (hp7.below b (by omega) (by have := e6.size; omega)); have hR7 := B_past hR6 hp7 nrg; have e7 := below_past e6 lg e6.size hp7)
            | (refine wpList_store_one rfl 4 _ _ rfl ga 0 rfl hA7 (.bool true) rfl (by simp [ZA]) rfl (by kernel_rfl) ?_; intro w9 hA9 hO9; (try go_frame); have hB9 := hB7.only hO9 nag.symm; have hown9 := own_only' hown7 hno hO9; have hrd9 := hrd7.below (hO9.below b (by omega)); have hR9 := hR7.only hO9 nar.symm; have e9 := e7.trans (hO9.below _ lga))
            | (refine wpList_load_all rfl 40 _ rfl ga rfl (show B w9 ga 40 ([.bool true, .int .u64 (0), .slice none 0 0]) from hA9) h40 rfl iA ?_)
            | (at_builtin; refine wpList_append_any _ rfl (.tmp 63) (.tmp 65) _ rfl w.heap.size 40 i0 _ 3 40 Try.underlying32 hi0 hz0 hz1 hz2 rfl (by omega) _ k Q rfl (World.ownsRow.alloc hown9 _) (w9.heap.size + 1) (some ⟨w9.heap.size, 0, none⟩) 1 1 ([.bool true, .int .u64 (0), .slice none 0 0]) rfl (new_three w9 _ _ _ _) hOne (by simp only [maxLen]; omega) (by omega) (by have := e9.size; simp; omega) ?_; intro vF wF hownF hgF hatF))
          go_roundw
          case rel =>
            have hoa := World.ownsRow.alloc hown9 (.cells ([.bool true, .int .u64 (0), .slice none 0 0] : List Value).toArray 40)
            have hBa := hB9.alloc (.cells ([.bool true, .int .u64 (0), .slice none 0 0] : List Value).toArray 40)
            have hRa := hR9.alloc (.cells ([.bool true, .int .u64 (0), .slice none 0 0] : List Value).toArray 40)
            have hra := hrd9.alloc (show b ≤ w9.heap.size by have := e9.size; omega) (.cells ([.bool true, .int .u64 (0), .slice none 0 0] : List Value).toArray 40)
            refine ⟨k + 1, g, Ds ++ [.slice none 0 0], by omega, by go_num, rfl, lg, HDLN.out _, HONX.out _ rfl, ?_, ?_, HHLN.out _ _ HN3.out, ?_, ?_, (e9.alloc e9.size _).grown hgF (by have := e9.size; simp; omega) (own_base hoa)⟩
            · rw [HRN.out, HSG.out]; exact hBa.grown hgF (own_ne hoa hBa (by decide))
            · rw [HAN.out, hans.out]; exact hownF
            · exact hra.grown hgF (by have := e9.size; simp; omega) (fun q hq => by have := own_base hoa q hq; omega)
            · exact hRa.grown hgF (own_ne hoa hRa (by decide))
          case measure => simp [intOf]; omega
        · have hs1 : (s == 1) = false := beq_eq_false_iff_ne.2 hc1
          by_cases hc2 : s = 2
          · have hs2 : (s == 2) = true := beq_iff_eq.2 hc2
            have hsg' : y.stepG s = y.reseed := by unfold G.stepG; rw [if_neg hc0, if_neg hc1, if_pos hc2]
            have hans := Lib.hid (show ansOf y s (.slice none 0 0) = [.bool true, .int .u64 (0), .slice none 0 0] by unfold ansOf G.stepK G.stepV; rw [if_neg hc0, if_neg (fun h => hc0 h.1), decide_eq_true (.inr (.inl hc2))]; rfl)
            have hn3 : s ≠ 3 := by omega
            have HSG := Lib.hid hsg'
            have HN3 := Lib.hid hn3
            have CR := Lib.hid (fun w h => reseed_any hb g y hyok w h)
            clear hsg' hc0 hc1 hc2 hn3
            have hOne : ∀ v ∈ ([.bool true, .int .u64 (0), .slice none 0 0] : List Value), v.oneCell' = true := by
              intro v hv
              simp only [List.mem_cons, List.not_mem_nil, or_false] at hv
              rcases hv with rfl | rfl | rfl <;> rfl
            go_wp2_with (first
              | (refine wpList_build0 rfl 40 rfl _ blA ?_; (try go_frame))
              | (refine wpList_alloc rfl 40 rfl ta _ ZA hta hya rfl ?_; intro ga w5 hga hlt5 hA5 hb5; (try go_frame); have hB5 := hB.call hb5; have hown5 := own_call hown hb5; have hrd5 := hrd.below (hb5.mono (by omega)); have hR5 := hR.call hb5; have e5 := below_call hbel sr hb5; have nag : ga ≠ g := (by have := hB.lt; omega); have nar : ga ≠ gr := (by have := hR.lt; omega); have lga : w.heap.size ≤ ga := (by omega))
              | (refine wpList_store_all rfl 40 _ _ rfl ga rfl hA5 ZA rfl rfl ZA_one iZA ?_; intro w6 hA6 hO6; (try go_frame); have hB6 := hB5.only hO6 nag.symm; have hno := (fun kk hkk => Nat.ne_of_lt (Nat.lt_of_lt_of_le (own_lt hown kk hkk) hga)); have hown6 := own_only' hown5 hno hO6; have hrd6 := hrd5.below (hO6.below b (by omega)); have hR6 := hR5.only hO6 nar.symm; have e6 := e5.trans (hO6.below _ lga))
              | (go_at_call 44; refine (CR.out _ hB6).mono ?_; rintro e w7 ⟨rfl, hB7, hp7⟩; have hA7 := B_past hA6 hp7 nag; have hown7 := own_past hown6 hB6 (by decide) hp7; have hrd7 := hrd6.below (hp7.below b (by omega) (by have := e6.size; omega)); have hR7 := B_past hR6 hp7 nrg; have e7 := below_past e6 lg e6.size hp7)
              | (refine wpList_store_one rfl 4 _ _ rfl ga 0 rfl hA7 (.bool true) rfl (by simp [ZA]) rfl (by kernel_rfl) ?_; intro w9 hA9 hO9; (try go_frame); have hB9 := hB7.only hO9 nag.symm; have hown9 := own_only' hown7 hno hO9; have hrd9 := hrd7.below (hO9.below b (by omega)); have hR9 := hR7.only hO9 nar.symm; have e9 := e7.trans (hO9.below _ lga))
              | (refine wpList_load_all rfl 40 _ rfl ga rfl (show B w9 ga 40 ([.bool true, .int .u64 (0), .slice none 0 0]) from hA9) h40 rfl iA ?_)
              | (at_builtin; refine wpList_append_any _ rfl (.tmp 63) (.tmp 65) _ rfl w.heap.size 40 i0 _ 3 40 Try.underlying32 hi0 hz0 hz1 hz2 rfl (by omega) _ k Q rfl (World.ownsRow.alloc hown9 _) (w9.heap.size + 1) (some ⟨w9.heap.size, 0, none⟩) 1 1 ([.bool true, .int .u64 (0), .slice none 0 0]) rfl (new_three w9 _ _ _ _) hOne (by simp only [maxLen]; omega) (by omega) (by have := e9.size; simp; omega) ?_; intro vF wF hownF hgF hatF))
            go_roundw
            case rel =>
              have hoa := World.ownsRow.alloc hown9 (.cells ([.bool true, .int .u64 (0), .slice none 0 0] : List Value).toArray 40)
              have hBa := hB9.alloc (.cells ([.bool true, .int .u64 (0), .slice none 0 0] : List Value).toArray 40)
              have hRa := hR9.alloc (.cells ([.bool true, .int .u64 (0), .slice none 0 0] : List Value).toArray 40)
              have hra := hrd9.alloc (show b ≤ w9.heap.size by have := e9.size; omega) (.cells ([.bool true, .int .u64 (0), .slice none 0 0] : List Value).toArray 40)
              refine ⟨k + 1, g, Ds ++ [.slice none 0 0], by omega, by go_num, rfl, lg, HDLN.out _, HONX.out _ rfl, ?_, ?_, HHLN.out _ _ HN3.out, ?_, ?_, (e9.alloc e9.size _).grown hgF (by have := e9.size; simp; omega) (own_base hoa)⟩
              · rw [HRN.out, HSG.out]; exact hBa.grown hgF (own_ne hoa hBa (by decide))
              · rw [HAN.out, hans.out]; exact hownF
              · exact hra.grown hgF (by have := e9.size; simp; omega) (fun q hq => by have := own_base hoa q hq; omega)
              · exact hRa.grown hgF (own_ne hoa hRa (by decide))
            case measure => simp [intOf]; omega
          · have hs2 : (s == 2) = false := beq_eq_false_iff_ne.2 hc2
            by_cases hc3 : s = 3
            · have hs3 : (s == 3) = true := beq_iff_eq.2 hc3
              have hsg' : y.stepG s = y := by unfold G.stepG; rw [if_neg hc0, if_neg hc1, if_neg hc2, if_neg (by omega)]
              have hansd : ∀ d, ansOf y s d = [.bool true, .int .u64 (n64 0), d] := fun d => by unfold ansOf G.stepK G.stepV; rw [if_neg hc0, if_neg (fun h => hc0 h.1), decide_eq_true (.inr (.inr (.inl hc3)))]
              have HANSD := Lib.hid hansd
              have HSG := Lib.hid hsg'
              have CM := Lib.hid (fun w h => marshal_any g y hyok w h)
              have hOneD : ∀ gq cq : Nat, ∀ v ∈ ([.bool true, .int .u64 (n64 0), .slice (some ⟨gq, 0, none⟩) 48 cq] : List Value), v.oneCell' = true := by
                intro gq cq v hv
                simp only [List.mem_cons, List.not_mem_nil, or_false] at hv
                rcases hv with rfl | rfl | rfl <;> rfl
              have hml := y.mar_length
              clear hsg' hansd hc0 hc1 hc2 hc3
              go_wp2_with (first
                | (refine wpList_build0 rfl 40 rfl _ blA ?_; (try go_frame))
                | (refine wpList_alloc rfl 40 rfl ta _ ZA hta hya rfl ?_; intro ga w5 hga hlt5 hA5 hb5; (try go_frame); have hB5 := hB.call hb5; have hown5 := own_call hown hb5; have hrd5 := hrd.below (hb5.mono (by omega)); have hR5 := hR.call hb5; have e5 := below_call hbel sr hb5; have nag : ga ≠ g := (by have := hB.lt; omega); have nar : ga ≠ gr := (by have := hR.lt; omega); have lga : w.heap.size ≤ ga := (by omega))
                | (refine wpList_store_all rfl 40 _ _ rfl ga rfl hA5 ZA rfl rfl ZA_one iZA ?_; intro w6 hA6 hO6; (try go_frame); have hB6 := hB5.only hO6 nag.symm; have hno := (fun kk hkk => Nat.ne_of_lt (Nat.lt_of_lt_of_le (own_lt hown kk hkk) hga)); have hown6 := own_only' hown5 hno hO6; have hrd6 := hrd5.below (hO6.below b (by omega)); have hR6 := hR5.only hO6 nar.symm; have e6 := e5.trans (hO6.below _ lga))
                | (go_at_call 46; refine (CM.out _ hB6).mono ?_; rintro e w7 ⟨gd, rfl, hgd, hD7, hb7⟩; have hA7 := hA6.call hb7; have hB7 := hB6.call hb7; have hown7 := own_call hown6 hb7; have hrd7 := hrd6.below (hb7.mono (by have := e6.size; omega)); have hR7 := hR6.call hb7; have e7 := below_call e6 e6.size hb7)
                | (go_at_call 45; refine (clone_any ⟨gd, 0, none⟩ 48 48 y.mar w7.heap.size _ (reads_of_B hD7 (by rw [b8s_length, hml])) (Nat.le_refl _) (by omega)).mono ?_; rintro e w8 ⟨vq, rfl, hq8, hb8⟩; have hA8 := hA7.call hb8; have hB8 := hB7.call hb8; have hown8 := own_call hown7 hb8; have hrd8 := hrd7.below (hb8.mono (by have := e7.size; omega)); have hR8 := hR7.call hb8; have e8 := below_call e7 e7.size hb8; obtain ⟨gq, cq, rq, rfl, hgq, hcq, hQ8⟩ := own_B hq8 (by omega); have nqa : gq ≠ ga := hQ8.ne_ hA8 (by decide); have hOne := hOneD gq cq; have hans := Lib.hid (HANSD.out (.slice (some ⟨gq, 0, none⟩) 48 cq)); have lgq : w.heap.size ≤ gq := (by have := e7.size; omega))
                | (refine wpList_store_one rfl 38 _ _ rfl ga 2 rfl hA8 ((.slice (some ⟨gq, 0, none⟩) 48 cq)) rfl (by simp [ZA]) rfl (by kernel_rfl) ?_; intro w9 hA9 hO9; (try go_frame); have hB9 := hB8.only hO9 nag.symm; have hown9 := own_only' hown8 hno hO9; have hrd9 := hrd8.below (hO9.below b (by omega)); have hR9 := hR8.only hO9 nar.symm; have e9 := e8.trans (hO9.below _ lga); have hQ9 := hQ8.only hO9 nqa)
                | (refine wpList_store_one rfl 4 _ _ rfl ga 0 rfl hA9 (.bool true) rfl (by simp [ZA]) rfl (by kernel_rfl) ?_; intro wA hAA hOA; (try go_frame); have hBA := hB9.only hOA nag.symm; have hownA := own_only' hown9 hno hOA; have hrdA := hrd9.below (hOA.below b (by omega)); have hRA := hR9.only hOA nar.symm; have eA := e9.trans (hOA.below _ lga); have hQA := hQ9.only hOA nqa)
                | (refine wpList_load_all rfl 40 _ rfl ga rfl (show B wA ga 40 ([.bool true, .int .u64 (n64 0), (.slice (some ⟨gq, 0, none⟩) 48 cq)]) from hAA) h40 rfl iA ?_)
                | (at_builtin; refine wpList_append_any _ rfl (.tmp 63) (.tmp 65) _ rfl w.heap.size 40 i0 _ 3 40 Try.underlying32 hi0 hz0 hz1 hz2 rfl (by omega) _ k Q rfl (World.ownsRow.alloc hownA _) (wA.heap.size + 1) (some ⟨wA.heap.size, 0, none⟩) 1 1 ([.bool true, .int .u64 (n64 0), (.slice (some ⟨gq, 0, none⟩) 48 cq)]) rfl (new_three wA _ _ _ _) hOne (by simp only [maxLen]; omega) (by omega) (by have := eA.size; simp; omega) ?_; intro vF wF hownF hgF hatF))
              go_roundw
              case rel =>
                have hoa := World.ownsRow.alloc hownA (.cells ([.bool true, .int .u64 (n64 0), (.slice (some ⟨gq, 0, none⟩) 48 cq)] : List Value).toArray 40)
                have hBa := hBA.alloc (.cells ([.bool true, .int .u64 (n64 0), (.slice (some ⟨gq, 0, none⟩) 48 cq)] : List Value).toArray 40)
                have hRa := hRA.alloc (.cells ([.bool true, .int .u64 (n64 0), (.slice (some ⟨gq, 0, none⟩) 48 cq)] : List Value).toArray 40)
                have hra := hrdA.alloc (show b ≤ wA.heap.size by have := eA.size; omega) (.cells ([.bool true, .int .u64 (n64 0), (.slice (some ⟨gq, 0, none⟩) 48 cq)] : List Value).toArray 40)
                have hqa := hQA.alloc (.cells ([.bool true, .int .u64 (n64 0), (.slice (some ⟨gq, 0, none⟩) 48 cq)] : List Value).toArray 40)
                refine ⟨k + 1, g, Ds ++ [(.slice (some ⟨gq, 0, none⟩) 48 cq)], by omega, by go_num, rfl, lg, HDLN.out _, HONX.out _ rfl, ?_, ?_, HHL3.out _ _ _ rq lgq hcq (hqa.grown hgF (own_ne hoa hqa (by decide))), ?_, ?_, (eA.alloc eA.size _).grown hgF (by have := eA.size; simp; omega) (own_base hoa)⟩
                · rw [HRN.out, HSG.out]; exact hBa.grown hgF (own_ne hoa hBa (by decide))
                · rw [HAN.out, hans.out]; exact hownF
                · exact hra.grown hgF (by have := eA.size; simp; omega) (fun q hq => by have := own_base hoa q hq; omega)
                · exact hRa.grown hgF (own_ne hoa hRa (by decide))
              case measure => simp [intOf]; omega
            · have hs3 : (s == 3) = false := beq_eq_false_iff_ne.2 hc3
              by_cases hc4 : s = 4
              · have hs4 : (s == 4) = true := beq_iff_eq.2 hc4
                have hsg' : y.stepG s = ofB y.mar := by rw [ofB_mar y hyok]; unfold G.stepG; rw [if_neg hc0, if_neg hc1, if_neg hc2, if_pos hc4]
                have hans := Lib.hid (show ansOf y s (.slice none 0 0) = [.bool true, .int .u64 (0), .slice none 0 0] by unfold ansOf G.stepK G.stepV; rw [if_neg hc0, if_neg (fun h => hc0 h.1), decide_eq_true (.inr (.inr (.inr hc4)))]; rfl)
                have HSG := Lib.hid hsg'
                have HN3 := Lib.hid hc3
                have CM := Lib.hid (fun w h => marshal_any g y hyok w h)
                have hml := y.mar_length
                have hval := mar_valid y hyok
                have CU := Lib.hid (fun g' gd cap D h1 h2 w h3 h4 => unmarshal_ok hb g' (u64s (List.replicate 32 0)) (by simp [u64s]) (.int .u64 0) (.int .u64 0) (.int .u64 0) (.int .u64 0) (.int .u32 0) (.int .u32 0) (.int .u32 0) gd cap D y.mar h1 h2 hval w h3 h4)
                rw [← ZS_st] at CU
                clear hsg' hc0 hc1 hc2 hc3 hc4 hval
                have hOne : ∀ v ∈ ([.bool true, .int .u64 (0), .slice none 0 0] : List Value), v.oneCell' = true := by
                  intro v hv
                  simp only [List.mem_cons, List.not_mem_nil, or_false] at hv
                  rcases hv with rfl | rfl | rfl <;> rfl
                go_wp2_with (first
                  | (refine wpList_build0 rfl 40 rfl _ blA ?_; (try go_frame))
                  | (refine wpList_alloc rfl 40 rfl ta _ ZA hta hya rfl ?_; intro ga w5 hga hlt5 hA5 hb5; (try go_frame); have hB5 := hB.call hb5; have hown5 := own_call hown hb5; have hrd5 := hrd.below (hb5.mono (by omega)); have hR5 := hR.call hb5; have e5 := below_call hbel sr hb5; have nag : ga ≠ g := (by have := hB.lt; omega); have nar : ga ≠ gr := (by have := hR.lt; omega); have lga : w.heap.size ≤ ga := (by omega))
                  | (refine wpList_store_all rfl 40 _ _ rfl ga rfl hA5 ZA rfl rfl ZA_one iZA ?_; intro w6 hA6 hO6; (try go_frame); have hB6 := hB5.only hO6 nag.symm; have hno := (fun kk hkk => Nat.ne_of_lt (Nat.lt_of_lt_of_le (own_lt hown kk hkk) hga)); have hown6 := own_only' hown5 hno hO6; have hrd6 := hrd5.below (hO6.below b (by omega)); have hR6 := hR5.only hO6 nar.symm; have e6 := e5.trans (hO6.below _ lga))
                  | (refine wpList_build0 rfl 68 rfl _ bld ?_; (try go_frame))
                  | (refine wpList_box rfl 68 _ rfl _ ZS rfl rfl ?_; intro gn w7 hgn hlt7 hG7 hb7; (try go_frame); have hA7 := hA6.call hb7; have hB7 := hB6.call hb7; have hown7 := own_call hown6 hb7; have hrd7 := hrd6.below (hb7.mono (by have := e6.size; omega)); have hR7 := hR6.call hb7; have e7 := below_call e6 e6.size hb7; have lgn : w.heap.size ≤ gn := (by have := e6.size; omega); have nan : ga ≠ gn := hA7.ne_ hG7 (by decide); have nrn : gr ≠ gn := hR7.ne_ hG7 (by decide))
                  | (go_at_call 46; refine (CM.out _ hB7).mono ?_; rintro e w8 ⟨gd, rfl, hgd, hD8, hb8⟩; have hA8 := hA7.call hb8; have hB8 := hB7.call hb8; have hown8 := own_call hown7 hb8; have hrd8 := hrd7.below (hb8.mono (by have := e7.size; omega)); have hR8 := hR7.call hb8; have e8 := below_call e7 e7.size hb8; have hG8 := hG7.call hb8)
                  | (go_at_call 45; refine (clone_any ⟨gd, 0, none⟩ 48 48 y.mar w8.heap.size _ (reads_of_B hD8 (by rw [b8s_length, hml])) (Nat.le_refl _) (by omega)).mono ?_; rintro e w9 ⟨vq, rfl, hq9, hb9⟩; have hA9 := hA8.call hb9; have hB9 := hB8.call hb9; have hown9 := own_call hown8 hb9; have hrd9 := hrd8.below (hb9.mono (by have := e8.size; omega)); have hR9 := hR8.call hb9; have e9 := below_call e8 e8.size hb9; have hG9 := hG8.call hb9; obtain ⟨gq, cq, rq, rfl, hgq, hcq, hQ9⟩ := own_B hq9 (by omega); have cu := CU.out gn gq cq _ (by rw [List.take_append_of_le_length (by rw [b8s_length, hml]; omega), List.take_of_length_le (by rw [b8s_length, hml]; omega)]) hcq w9 hG9 hQ9)
                  | (go_at_call 47; refine cu.mono ?_; rintro e wA ⟨rfl, hGA, hpA⟩; have hAA := B_past hA9 hpA nan; have hownA := own_past hown9 hG9 (by decide) hpA; have hrdA := hrd9.below (hpA.below b (by omega) (by have := e9.size; omega)); have hRA := B_past hR9 hpA nrn; have eA := below_past e9 lgn e9.size hpA)
                  | (refine wpList_store_one rfl 4 _ _ rfl ga 0 rfl hAA (.bool true) rfl (by simp [ZA]) rfl (by kernel_rfl) ?_; intro wB hAB hOB; (try go_frame); have hBB := hGA.only hOB nan.symm; have hownB := own_only' hownA hno hOB; have hrdB := hrdA.below (hOB.below b (by omega)); have hRB := hRA.only hOB nar.symm; have eB := eA.trans (hOB.below _ lga))
                  | (refine wpList_load_all rfl 40 _ rfl ga rfl (show B wB ga 40 ([.bool true, .int .u64 (0), .slice none 0 0]) from hAB) h40 rfl iA ?_)
                  | (at_builtin; refine wpList_append_any _ rfl (.tmp 63) (.tmp 65) _ rfl w.heap.size 40 i0 _ 3 40 Try.underlying32 hi0 hz0 hz1 hz2 rfl (by omega) _ k Q rfl (World.ownsRow.alloc hownB _) (wB.heap.size + 1) (some ⟨wB.heap.size, 0, none⟩) 1 1 ([.bool true, .int .u64 (0), .slice none 0 0]) rfl (new_three wB _ _ _ _) hOne (by simp only [maxLen]; omega) (by omega) (by have := eB.size; simp; omega) ?_; intro vF wF hownF hgF hatF))
                go_roundw
                case rel =>
                  have hoa := World.ownsRow.alloc hownB (.cells ([.bool true, .int .u64 (0), .slice none 0 0] : List Value).toArray 40)
                  have hBa := hBB.alloc (.cells ([.bool true, .int .u64 (0), .slice none 0 0] : List Value).toArray 40)
                  have hRa := hRB.alloc (.cells ([.bool true, .int .u64 (0), .slice none 0 0] : List Value).toArray 40)
                  have hra := hrdB.alloc (show b ≤ wB.heap.size by have := eB.size; omega) (.cells ([.bool true, .int .u64 (0), .slice none 0 0] : List Value).toArray 40)
                  refine ⟨k + 1, gn, Ds ++ [.slice none 0 0], by omega, by go_num, rfl, lgn, HDLN.out _, HONX.out _ rfl, ?_, ?_, HHLN.out _ _ HN3.out, ?_, ?_, (eB.alloc eB.size _).grown hgF (by have := eB.size; simp; omega) (own_base hoa)⟩
                  · rw [HRN.out, HSG.out]; exact hBa.grown hgF (own_ne hoa hBa (by decide))
                  · rw [HAN.out, hans.out]; exact hownF
                  · exact hra.grown hgF (by have := eB.size; simp; omega) (fun q hq => by have := own_base hoa q hq; omega)
                  · exact hRa.grown hgF (own_ne hoa hRa (by decide))
                case measure => simp [intOf]; omega
              · have hs4 : (s == 4) = false := beq_eq_false_iff_ne.2 hc4
                have hsg' : y.stepG s = y := by unfold G.stepG; rw [if_neg hc0, if_neg hc1, if_neg hc2, if_neg hc4]
                have hans := Lib.hid (show ansOf y s (.slice none 0 0) = [.bool false, .int .u64 (0), .slice none 0 0] by unfold ansOf G.stepK G.stepV; rw [if_neg hc0, if_neg (fun h => hc0 h.1), decide_eq_false (by omega)]; rfl)
                have HSG := Lib.hid hsg'
                have HN3 := Lib.hid hc3
                clear hsg' hc0 hc1 hc2 hc3 hc4
                have hOne : ∀ v ∈ ([.bool false, .int .u64 (0), .slice none 0 0] : List Value), v.oneCell' = true := by
                  intro v hv
                  simp only [List.mem_cons, List.not_mem_nil, or_false] at hv
                  rcases hv with rfl | rfl | rfl <;> rfl
                go_wp2_with (first
                  | (refine wpList_build0 rfl 40 rfl _ blA ?_; (try go_frame))
                  | (refine wpList_alloc rfl 40 rfl ta _ ZA hta hya rfl ?_; intro ga w5 hga hlt5 hA5 hb5; (try go_frame); have hB5 := hB.call hb5; have hown5 := own_call hown hb5; have hrd5 := hrd.below (hb5.mono (by omega)); have hR5 := hR.call hb5; have e5 := below_call hbel sr hb5; have nag : ga ≠ g := (by have := hB.lt; omega); have nar : ga ≠ gr := (by have := hR.lt; omega); have lga : w.heap.size ≤ ga := (by omega))
                  | (refine wpList_store_all rfl 40 _ _ rfl ga rfl hA5 ZA rfl rfl ZA_one iZA ?_; intro w6 hA6 hO6; (try go_frame); have hB6 := hB5.only hO6 nag.symm; have hno := (fun kk hkk => Nat.ne_of_lt (Nat.lt_of_lt_of_le (own_lt hown kk hkk) hga)); have hown6 := own_only' hown5 hno hO6; have hrd6 := hrd5.below (hO6.below b (by omega)); have hR6 := hR5.only hO6 nar.symm; have e6 := e5.trans (hO6.below _ lga))
                  | (refine wpList_load_all rfl 40 _ rfl ga rfl (show B w6 ga 40 ([.bool false, .int .u64 (0), .slice none 0 0]) from hA6) h40 rfl iA ?_)
                  | (at_builtin; refine wpList_append_any _ rfl (.tmp 63) (.tmp 65) _ rfl w.heap.size 40 i0 _ 3 40 Try.underlying32 hi0 hz0 hz1 hz2 rfl (by omega) _ k Q rfl (World.ownsRow.alloc hown6 _) (w6.heap.size + 1) (some ⟨w6.heap.size, 0, none⟩) 1 1 ([.bool false, .int .u64 (0), .slice none 0 0]) rfl (new_three w6 _ _ _ _) hOne (by simp only [maxLen]; omega) (by omega) (by have := e6.size; simp; omega) ?_; intro vF wF hownF hgF hatF))
                go_roundw
                case rel =>
                  have hoa := World.ownsRow.alloc hown6 (.cells ([.bool false, .int .u64 (0), .slice none 0 0] : List Value).toArray 40)
                  have hBa := hB6.alloc (.cells ([.bool false, .int .u64 (0), .slice none 0 0] : List Value).toArray 40)
                  have hRa := hR6.alloc (.cells ([.bool false, .int .u64 (0), .slice none 0 0] : List Value).toArray 40)
                  have hra := hrd6.alloc (show b ≤ w6.heap.size by have := e6.size; omega) (.cells ([.bool false, .int .u64 (0), .slice none 0 0] : List Value).toArray 40)
                  refine ⟨k + 1, g, Ds ++ [.slice none 0 0], by omega, by go_num, rfl, lg, HDLN.out _, HONX.out _ rfl, ?_, ?_, HHLN.out _ _ HN3.out, ?_, ?_, (e6.alloc e6.size _).grown hgF (by have := e6.size; simp; omega) (own_base hoa)⟩
                  · rw [HRN.out, HSG.out]; exact hBa.grown hgF (own_ne hoa hBa (by decide))
                  · rw [HAN.out, hans.out]; exact hownF
                  · exact hra.grown hgF (by have := e6.size; simp; omega) (fun q hq => by have := own_base hoa q hq; omega)
                  · exact hRa.grown hgF (own_ne hoa hRa (by decide))
                case measure => simp [intOf]; omega
    · have hge : (m : Int) ≤ (k : Int) := by omega
      have hm' : (m : Int) ≤ 100000 := by omega
      have hkm : k = m := by omega
      have hLt : L.take k = L := by rw [List.take_of_length_le (by rw [HLL.out]; omega)]
      rw [hLt] at hB hown
      have hxok := G.run_ok hok0 L
      have CP := Lib.hid (fun w h => partsOf_any g (x.run L) hxok w h)
      have hpl := (x.run L).parts_length
      have IP := Lib.hid (show (Try.prog.info? 35).map (·.size) = some (x.run L).parts.length by rw [size35, hpl])
      have HPL := Lib.hid (show (x.run L).parts.length = Z39.length by rw [hpl, Z39_length])
      have hpo := parts_one (x.run L)
      have HK := Lib.hid hkm
      clear hkm hLt hpl
      go_wp2_with (first
        | (go_at_call 48; refine (CP.out _ hB).mono ?_; rintro e w5 ⟨rfl, hb5⟩; have hR5 := hR.call hb5; have hown5 := own_call hown hb5; have e5 := below_call hbel hbel.size hb5)
        | (refine wpList_store_all rfl 35 _ _ rfl gr rfl hR5 (x.run L).parts rfl HPL.out hpo IP.out ?_; intro w6 hR6 hO6; (try go_frame); have hown6 := own_only hown5 hR5 (by decide) hO6; have e6 := e5.trans (hO6.below _ lgr)))
      have hl6 : LastD w6 x L Ds w.heap.size m := by
        rw [← HK.out]
        intro j hj h3
        obtain ⟨gq, cq, r, h1, h2, h4, h5⟩ := hlast j hj h3
        exact ⟨gq, cq, r, h1, h2, h4, (h5.call hb5).only hO6 ((h5.call hb5).ne_ hR5 (by decide))⟩
      rw [HK.out] at hDs hown6
      refine bodyPost_ret (results_tmp_block rfl _ _ gr 35 _ _ rfl hR6 h35 rfl IP.out) rfl ?_
      exact ⟨_, Ds, rfl, hDs, hone, hown6, hl6, e6⟩
end Go.Proofs.Ytjhpffenlhfilaa.Ch
