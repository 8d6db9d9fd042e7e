/- The arguments of a law opened: an array of integers by value, a slice of integers, as the walks take them. -/
import Derived.Test.YtjhpffenlhfilaaRows
import Derived.Test.YtjhpffenlhfilaaMem
import Derived.Test.YtjhpffenlhfilaaEq
import Derived.WalkKit
import Derived.ProofKit
import Derived.OpenShut
import Derived.ShutString
import Derived.ChangeOld
namespace Go.Proofs.Ytjhpffenlhfilaa
open Go.ChangeShapes Go.WideShapes Go.ChangeAt Go.RowKit
open Mem

theorem own : ownKnob Try.prog.godebug = none := by kernel_rfl
theorem laidOut : laidOutB Try.prog = true := by kernel_rfl

section
variable {H : Type} {enc : TypeId × Value → H} {P : Program} {w : World} {base b0 : Nat} {spare : Nat → Bool} {held : Bool}

theorem okWide_array {r : Reach} {t : TypeId} {v : Value} {n : Nat} {e : TypeId} (ht : P.underlying t = some (.array n e)) (h : Value.okWide P w r b0 t v) : ∃ cs, v = .agg cs ∧ cs.size = P.cellsOf t := by
  simp only [Value.okWide, ht] at h
  obtain ⟨cs, h1, h2, _⟩ := h
  exact ⟨cs, h1, h2⟩

/-- An array of integers that came in by value: its numbers, each fitting its kind. -/
theorem open_ints_array {r : Reach} {t e : TypeId} {n : Nat} {k : IntKind} {v : Value} {d : DataW H} {p : List MemPlace} (ht : P.underlying t = some (.array n e)) (he : P.underlying e = some (.int k)) (hC : P.cellsOf t = n) (hce : P.cellsOf e = 1)
    (hv : Value.okWide P w r b0 t v) (h : DataW.Trod enc P w base spare held t v d p) :
    ∃ l : List Int, l.length = n ∧ v = .agg (Eq.ints k l) ∧ ∀ x ∈ l, (Lit.int k x).wf = true := by
  obtain ⟨cs, rfl, hsz⟩ := okWide_array ht hv
  obtain ⟨fuel, hf⟩ := h
  obtain ⟨xs, m, _, _, hlen, hl, hel⟩ := DataW.trod_array ht hf
  simp only [Value.cells] at hlen hel
  have each : ∀ i, (hi : i < n) → ∃ q : Int, cs[i]? = some (.int k q) ∧ (Lit.int k q).wf = true := by
    intro i hi
    have h1 := hel i hi
    rw [hce, Nat.mul_one] at h1
    have hx : xs[i]? = some (xs[i]'(by omega)) := List.getElem?_eq_getElem (by omega)
    rw [hx] at h1
    obtain ⟨q, hq, _, hw⟩ := DataW.trod_int he h1
    refine ⟨q, ?_, hw⟩
    have h2 : ((cs.toList.drop i).take 1)[0]? = some (.int k q) := by rw [hq]; rfl
    simpa [List.getElem?_take] using h2
  refine ⟨cs.toList.map (fun v => match v with | .int _ q => q | _ => 0), by simp; omega, ?_, ?_⟩
  · congr 1
    apply Array.ext_getElem?
    intro i
    by_cases hi : i < n
    · obtain ⟨q, hq, _⟩ := each i hi
      simp [Eq.ints, hq]
    · have hn : cs[i]? = none := Array.getElem?_eq_none (by omega)
      simp [Eq.ints, hn]
  · intro x hx
    obtain ⟨v, hv', rfl⟩ := List.mem_map.1 hx
    obtain ⟨i, hi⟩ := List.getElem?_of_mem hv'
    have hin : i < n := by
      have := (List.getElem?_eq_some_iff.1 hi).1
      simp at this; omega
    obtain ⟨q, hq, hw⟩ := each i hin
    have : v = .int k q := by
      have h3 : cs[i]? = some v := by simpa using hi
      rw [hq] at h3; injection h3 with h3; exact h3.symm
    subst this
    exact hw

/-- A slice of integers that came in: what the walks are told of it. -/
structure Came (k : IntKind) (w : World) (A : Option Addr) (len cap : Nat) (zs : List Int) : Prop where
  reads : Reads w w.heap.size 1 A len (zs.map (Value.int k))
  len_le : len ≤ cap
  cap_le : cap ≤ maxLen
  wf : ∀ n ∈ zs, (Lit.int k n).wf = true
  nil : A = none → cap = 0

theorem Came.length {k : IntKind} {w : World} {A : Option Addr} {len cap : Nat} {zs : List Int} (h : Came k w A len cap zs) : zs.length = len := by
  have := h.reads.1; simpa using this

theorem came_of {t e : TypeId} {k : IntKind} {fuel : Nat} {A : Option Addr} {len cap : Nat} {x : DataW H × List MemPlace} (ht : P.underlying t = some (.slice e)) (he : P.underlying e = some (.int k)) (hc : P.cellsOf e = 1)
    (h : DataW.trod enc P w 0 (fun _ => true) held fuel t [.slice A len cap] = some x) :
    ∃ zs, Came k w A len cap zs := by
  rcases open_ints ht he hc h with ⟨hcs, _⟩ | ⟨a, l, c, zs, hcs, _, hl, hm, hz, hx, hcell, hwz⟩
  · simp at hcs
    obtain ⟨rfl, rfl, rfl⟩ := hcs
    exact ⟨[], ⟨⟨by simp, fun h => absurd h (by omega)⟩, Nat.le_refl _, by unfold maxLen; omega, by simp, fun _ => rfl⟩⟩
  · simp at hcs
    obtain ⟨rfl, rfl, rfl⟩ := hcs
    simp only [if_true] at hz
    refine ⟨zs.take len, ⟨⟨by simp; omega, fun hn => ⟨a, rfl, ?_, ?_⟩⟩, hl, hm, fun n hn => hwz n (List.mem_of_mem_take hn), fun h => by cases h⟩⟩
    · have h0 := hcell 0 (by omega)
      have := World.block_lt_of_cell? _ _ h0
      simpa [Addr.add] using this
    · intro j u hu
      have hj : j < len := by
        have := (List.getElem?_eq_some_iff.1 hu).1
        simp at this; omega
      have hj' : j < zs.length := by omega
      have e1 : ((zs.take len).map (Value.int k))[j]? = some (.int k zs[j]) := by
        simp [hj, hj']
      rw [e1] at hu
      injection hu with hu
      subst hu
      have := hcell j hj'
      rw [this]
      simp [List.getD, hj']
end
end Go.Proofs.Ytjhpffenlhfilaa
