/-
  A WHOLE BLOCK THAT THE CALL ITSELF MADE: 'Arr e w b vs': block b of the world w is a row of the cells vs, of element type e, none of them frozen. And what a store, a new block, a draw does to it.
-/
import Derived.WalkKit
import Derived.WalkSpells
import Derived.WalkLawsBesides
namespace Go.Proofs.Qxb6603652a
open Go.RowKit

def Arr (e : TypeId) (w : World) (b : Nat) (vs : List Value) : Prop := w.heap[b]? = some (.cells vs.toArray e (0, 0))

theorem Arr.lt {e : TypeId} {w : World} {b : Nat} {vs : List Value} (h : Arr e w b vs) : b < w.heap.size := by
  unfold Arr at h
  exact (Array.getElem?_eq_some_iff.1 h).1

theorem Arr.cell {e : TypeId} {w : World} {b : Nat} {vs : List Value} (h : Arr e w b vs) (j : Nat) : w.cell? ⟨b, j, none⟩ = vs[j]? := by
  rw [cell_of_row w b j vs.toArray e (0, 0) h]
  simp

theorem Arr.frozen {e : TypeId} {w : World} {b : Nat} {vs : List Value} (h : Arr e w b vs) (j : Nat) : w.frozen? ⟨b, j, none⟩ = false :=
  frozen_of_row w b j vs.toArray e h

theorem Arr.setCell {e : TypeId} {w : World} {b : Nat} {vs : List Value} (h : Arr e w b vs) (j : Nat) (u : Value) : Arr e (w.setCell ⟨b, j, none⟩ u) b (vs.set j u) := by
  have := heap_setCell_same w b j vs.toArray e u h
  unfold Arr
  rw [this]
  simp

theorem Arr.other {e : TypeId} {w w' : World} {b : Nat} {vs : List Value} (h : Arr e w b vs) (hb : w'.heap[b]? = w.heap[b]?) : Arr e w' b vs := hb.trans h

theorem Arr.setOther {e : TypeId} {w : World} {b : Nat} {vs : List Value} (h : Arr e w b vs) (a : Addr) (ha : b ≠ a.block) (u : Value) : Arr e (w.setCell a u) b vs :=
  h.other (heap_setCell_other w a b u ha)

theorem Arr.alloc {e : TypeId} {w : World} {b : Nat} {vs : List Value} (h : Arr e w b vs) (o : Obj) : Arr e (w.alloc o) b vs :=
  h.other (Below.heap_alloc w o b h.lt)

theorem Arr.new (e : TypeId) (w : World) (vs : List Value) : Arr e (w.alloc (.cells vs.toArray e (0, 0))) w.heap.size vs := heap_alloc_new w _

theorem Arr.below {e : TypeId} {w w' : World} {b B : Nat} {vs : List Value} (h : Arr e w b vs) (hb : Below B w w') (hB : b < B) : Arr e w' b vs := h.other (hb.block b hB)

theorem Arr.drewN {e : TypeId} {w : World} {b : Nat} {vs : List Value} (h : Arr e w b vs) (n : Nat) : Arr e (w.drewN n) b vs := h

theorem bdrewN {B : Nat} {u w : World} (h : Below B u w) (n : Nat) : Below B u (w.drewN n) := ⟨h.os, h.tape, h.output, h.size, h.block⟩

/-- Only block b has turned. -/
structure Only (b : Nat) (w w' : World) : Prop where
  os : w'.os = w.os
  tape : w'.tape = w.tape
  output : w'.output = w.output
  size : w'.heap.size = w.heap.size
  block : ∀ k, k ≠ b → w'.heap[k]? = w.heap[k]?

theorem Only.refl (b : Nat) (w : World) : Only b w w := ⟨rfl, rfl, rfl, rfl, fun _ _ => rfl⟩
theorem Only.trans {b : Nat} {u v w : World} (h : Only b u v) (k : Only b v w) : Only b u w :=
  ⟨k.os.trans h.os, k.tape.trans h.tape, k.output.trans h.output, k.size.trans h.size, fun i hi => (k.block i hi).trans (h.block i hi)⟩
theorem Only.drew {b : Nat} {v w : World} (h : Only b v w) : Only b v w.drew := ⟨h.os, h.tape, h.output, h.size, h.block⟩
theorem Only.drewN {b : Nat} {v w : World} (h : Only b v w) (n : Nat) : Only b v (w.drewN n) := ⟨h.os, h.tape, h.output, h.size, h.block⟩
theorem Only.setCell {b : Nat} {v w : World} (h : Only b v w) (j : Nat) (u : Value) : Only b v (w.setCell ⟨b, j, none⟩ u) :=
  h.trans ⟨rfl, rfl, rfl, by simp [World.setCell], fun k hk => heap_setCell_other w ⟨b, j, none⟩ k u hk⟩
theorem Only.below {b B : Nat} {w w' : World} (h : Only b w w') (hB : B ≤ b) : Below B w w' :=
  ⟨h.os, h.tape, h.output, by rw [h.size]; exact Nat.le_refl _, fun k hk => h.block k (by omega)⟩
theorem Only.arr {e : TypeId} {b c : Nat} {w w' : World} {vs : List Value} (h : Only b w w') (hc : c ≠ b) (ha : Arr e w c vs) : Arr e w' c vs := ha.other (h.block c hc)

end Go.Proofs.Qxb6603652a
