/- One old block has turned, and new ones may have come. -/
import Derived.Test.YtjhpffenlhfilaaBlk
namespace Go.Proofs.Ytjhpffenlhfilaa.Mem
open Go.RowKit

/-- Of the blocks that there were, only block g has turned. -/
structure Past (g : Nat) (w w' : World) : Prop where
  os : w'.os = w.os
  tape : w'.tape = w.tape
  output : w'.output = w.output
  size : w.heap.size ≤ w'.heap.size
  block : ∀ k, k < w.heap.size → k ≠ g → w'.heap[k]? = w.heap[k]?
theorem Past.refl (g : Nat) (w : World) : Past g w w := ⟨rfl, rfl, rfl, Nat.le_refl _, fun _ _ _ => rfl⟩
theorem Past.below {g : Nat} {w w' : World} (h : Past g w w') (b : Nat) (hb : b ≤ g) (hs : b ≤ w.heap.size) : Below b w w' := ⟨h.os, h.tape, h.output, by have := h.size; omega, fun k hk => h.block k (by omega) (by omega)⟩
theorem Past.trans {g : Nat} {w w' w'' : World} (h : Past g w w') (k : Past g w' w'') : Past g w w'' :=
  ⟨k.os.trans h.os, k.tape.trans h.tape, k.output.trans h.output, Nat.le_trans h.size k.size, fun i hi hg => (k.block i (Nat.lt_of_lt_of_le hi h.size) hg).trans (h.block i hi hg)⟩
theorem Past.only {g : Nat} {w w' w'' : World} (h : Past g w w') (k : Only g w' w'') : Past g w w'' :=
  ⟨k.os.trans h.os, k.tape.trans h.tape, k.output.trans h.output, by rw [k.size]; exact h.size, fun i hi hg => (k.block i hg).trans (h.block i hi hg)⟩
/-- A new block turns. -/
theorem Past.new {g g' : Nat} {w w' w'' : World} (h : Past g w w') (hg : w.heap.size ≤ g') (k : Only g' w' w'') : Past g w w'' :=
  ⟨k.os.trans h.os, k.tape.trans h.tape, k.output.trans h.output, by rw [k.size]; exact h.size, fun i hi hgi => (k.block i (by omega)).trans (h.block i hi hgi)⟩
theorem Past.call {g : Nat} {w w' w'' : World} (h : Past g w w') (k : Below w'.heap.size w' w'') : Past g w w'' :=
  ⟨k.os.trans h.os, k.tape.trans h.tape, k.output.trans h.output, Nat.le_trans h.size k.size, fun i hi hg => (k.block i (Nat.lt_of_lt_of_le hi h.size)).trans (h.block i hi hg)⟩
theorem Past.drewN {g : Nat} {w w' : World} (h : Past g w w') (n : Nat) : Past g w (w'.drewN n) := ⟨h.os, h.tape, h.output, h.size, h.block⟩
theorem Past.of_only {g : Nat} {w w' : World} (h : Only g w w') : Past g w w' := (Past.refl g w).only h
theorem Past.of_below {g : Nat} {w w' : World} (h : Below w.heap.size w w') : Past g w w' := (Past.refl g w).call h
theorem B_past {g g' : Nat} {w w' : World} {t : TypeId} {l : List Value} (h : B w g t l) (hp : Past g' w w') (hne : g ≠ g') : B w' g t l := (hp.block g h.lt hne).trans h
/-- Behind a call of its own the caller's frame: only old block g has turned. -/
theorem Past.past {g : Nat} {w w' w'' : World} (h : Past g w w') (k : Past g w' w'') : Past g w w'' := h.trans k
/-- A new block has turned. -/
theorem below_past {b g : Nat} {w w' w'' : World} (h : Below b w w') (hb : b ≤ g) (hs : b ≤ w'.heap.size) (k : Past g w' w'') : Below b w w'' := h.trans (k.below b hb hs)
end Go.Proofs.Ytjhpffenlhfilaa.Mem
