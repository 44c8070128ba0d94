/-
  A WHOLE BLOCK THAT THE CALL ITSELF MADE: 'Arr e w b vs': block b of the world w is a row of the cells vs, of element type e, none of them frozen. And what a store, a new block, a draw does to it.
-/
import Derived.WalkKit
import Derived.WalkSpells
import Derived.WalkLawsBesides
namespace Go.Proofs.Qxb6604626a
open Go.RowKit

def Arr (e : TypeId) (w : World) (b : Nat) (vs : List Value) : Prop := w.heap[b]? = some (.cells vs.toArray e (0, 0))

theorem Arr.lt {e : TypeId} {w : World} {b : Nat} {vs : List Value} (h : Arr e w b vs) : b < w.heap.size := by
  unfold Arr at h
  exact (Array.getElem?_eq_some_iff.1 h).1

theorem Arr.cell {e : TypeId} {w : World} {b : Nat} {vs : List Value} (h : Arr e w b vs) (j : Nat) : w.cell? ⟨b, j, none⟩ = vs[j]? := by
  rw [cell_of_row w b j vs.toArray e (0, 0) h]
  simp

theorem Arr.frozen {e : TypeId} {w : World} {b : Nat} {vs : List Value} (h : Arr e w b vs) (j : Nat) : w.frozen? ⟨b, j, none⟩ = false :=
  frozen_of_row w b j vs.toArray e h

theorem Arr.setCell {e : TypeId} {w : World} {b : Nat} {vs : List Value} (h : Arr e w b vs) (j : Nat) (u : Value) : Arr e (w.setCell ⟨b, j, none⟩ u) b (vs.set j u) := by
  have := heap_setCell_same w b j vs.toArray e u h
  unfold Arr
  rw [this]
  simp

theorem Arr.other {e : TypeId} {w w' : World} {b : Nat} {vs : List Value} (h : Arr e w b vs) (hb : w'.heap[b]? = w.heap[b]?) : Arr e w' b vs := hb.trans h

theorem Arr.setOther {e : TypeId} {w : World} {b : Nat} {vs : List Value} (h : Arr e w b vs) (a : Addr) (ha : b ≠ a.block) (u : Value) : Arr e (w.setCell a u) b vs :=
  h.other (heap_setCell_other w a b u ha)

theorem Arr.alloc {e : TypeId} {w : World} {b : Nat} {vs : List Value} (h : Arr e w b vs) (o : Obj) : Arr e (w.alloc o) b vs :=
  h.other (Below.heap_alloc w o b h.lt)

theorem Arr.new (e : TypeId) (w : World) (vs : List Value) : Arr e (w.alloc (.cells vs.toArray e (0, 0))) w.heap.size vs := heap_alloc_new w _

theorem Arr.below {e : TypeId} {w w' : World} {b B : Nat} {vs : List Value} (h : Arr e w b vs) (hb : Below B w w') (hB : b < B) : Arr e w' b vs := h.other (hb.block b hB)

theorem Arr.drewN {e : TypeId} {w : World} {b : Nat} {vs : List Value} (h : Arr e w b vs) (n : Nat) : Arr e (w.drewN n) b vs := h

theorem bdrewN {B : Nat} {u w : World} (h : Below B u w) (n : Nat) : Below B u (w.drewN n) := ⟨h.os, h.tape, h.output, h.size, h.block⟩

/-- Only block b has turned. -/
structure Only (b : Nat) (w w' : World) : Prop where
  os : w'.os = w.os
  tape : w'.tape = w.tape
  output : w'.output = w.output
  size : w'.heap.size = w.heap.size
  block : ∀ k, k ≠ b → w'.heap[k]? = w.heap[k]?

theorem Only.refl (b : Nat) (w : World) : Only b w w := ⟨rfl, rfl, rfl, rfl, fun _ _ => rfl⟩
theorem Only.trans {b : Nat} {u v w : World} (h : Only b u v) (k : Only b v w) : Only b u w :=
  ⟨k.os.trans h.os, k.tape.trans h.tape, k.output.trans h.output, k.size.trans h.size, fun i hi => (k.block i hi).trans (h.block i hi)⟩
theorem Only.drew {b : Nat} {v w : World} (h : Only b v w) : Only b v w.drew := ⟨h.os, h.tape, h.output, h.size, h.block⟩
theorem Only.drewN {b : Nat} {v w : World} (h : Only b v w) (n : Nat) : Only b v (w.drewN n) := ⟨h.os, h.tape, h.output, h.size, h.block⟩
theorem Only.setCell {b : Nat} {v w : World} (h : Only b v w) (j : Nat) (u : Value) : Only b v (w.setCell ⟨b, j, none⟩ u) :=
  h.trans ⟨rfl, rfl, rfl, by simp [World.setCell], fun k hk => heap_setCell_other w ⟨b, j, none⟩ k u hk⟩
theorem Only.below {b B : Nat} {w w' : World} (h : Only b w w') (hB : B ≤ b) : Below B w w' :=
  ⟨h.os, h.tape, h.output, by rw [h.size]; exact Nat.le_refl _, fun k hk => h.block k (by omega)⟩
theorem Only.arr {e : TypeId} {b c : Nat} {w w' : World} {vs : List Value} (h : Only b w w') (hc : c ≠ b) (ha : Arr e w c vs) : Arr e w' c vs := ha.other (h.block c hc)

/-! ### A row of m cells that is being filled from its head: L is there, the rest is z -/
def fill (z : Value) (L : List Value) (m : Nat) : List Value := L ++ List.replicate (m - L.length) z
theorem fill_nil (z : Value) (m : Nat) : fill z [] m = List.replicate m z := by simp [fill]
theorem fill_full (z : Value) (L : List Value) (m : Nat) (h : L.length = m) : fill z L m = L := by simp [fill, h]
theorem fill_set (z x : Value) (L : List Value) (m : Nat) (h : L.length < m) : (fill z L m).set L.length x = fill z (L ++ [x]) m := by
  obtain ⟨r, hr⟩ : ∃ r, m - L.length = r + 1 := ⟨m - L.length - 1, by omega⟩
  have hr2 : m - (L.length + 1) = r := by omega
  simp [fill, hr, hr2, List.replicate_succ]
theorem fill_at (z : Value) (L : List Value) (m : Nat) (h : L.length < m) : (fill z L m)[L.length]? = some z := by
  obtain ⟨r, hr⟩ : ∃ r, m - L.length = r + 1 := ⟨m - L.length - 1, by omega⟩
  simp [fill, hr, List.replicate_succ]
theorem made_arr (e : TypeId) (z : Value) (w : World) (n : Nat) : Arr e (w.alloc (.cells (madeCells #[z] n) e)) w.heap.size (fill z [] n) := by
  have h := heap_alloc_new w (.cells (madeCells #[z] n) e)
  unfold Arr
  rw [h]
  have e2 : madeCells #[z] n = (fill z [] n).toArray := by
    apply Array.toList_inj.1
    rw [toList_madeCells_one]
    simp [fill]
  rw [e2]

/-! ### A slice of strings that is read: its cells, or nothing -/
def Src (w : World) (a : Option Addr) (ss : List ByteArray) : Prop :=
  ss = [] ∨ ∃ b off, a = some ⟨b, off, none⟩ ∧ ∀ j, j < ss.length → w.cell? ⟨b, off + j, none⟩ = some (.string (ss.getD j ByteArray.empty))
theorem Src.at {w : World} {a : Option Addr} {ss : List ByteArray} (h : Src w a ss) {k : Nat} (hk : k < ss.length) :
    ∃ b off, a = some ⟨b, off, none⟩ ∧ w.cell? ⟨b, off + k, none⟩ = some (.string (ss.getD k ByteArray.empty)) := by
  rcases h with rfl | ⟨b, off, ha, hc⟩
  · simp at hk
  · exact ⟨b, off, ha, hc k hk⟩
theorem Src.later {w w' : World} {a : Option Addr} {ss : List ByteArray} (h : Src w a ss) {M : Nat} (hM : w.heap.size ≤ M) (hb : Below M w w') : Src w' a ss := by
  rcases h with rfl | ⟨b, off, ha, hc⟩
  · exact .inl rfl
  · refine .inr ⟨b, off, ha, fun j hj => ?_⟩
    have h1 := World.block_lt_of_cell? w _ (hc j hj)
    exact (hb.cell (p := ⟨b, off + j, none⟩) (Nat.lt_of_lt_of_le h1 hM)).trans (hc j hj)
theorem Src.drewN {w : World} {a : Option Addr} {ss : List ByteArray} (h : Src w a ss) (n : Nat) : Src (w.drewN n) a ss := h
def S (ss : List ByteArray) : List Value := ss.map Value.string
theorem S_get (ss : List ByteArray) (j : Nat) (h : j < ss.length) : (S ss)[j]? = some (.string (ss.getD j ByteArray.empty)) := by
  simp [S, List.getD, h]
theorem S_len (ss : List ByteArray) : (S ss).length = ss.length := by simp [S]
theorem Src.of_arr {w : World} {g : Nat} {e : TypeId} {ss : List ByteArray} (h : Arr e w g (S ss)) : Src w (some ⟨g, 0, none⟩) ss :=
  .inr ⟨g, 0, rfl, fun j hj => by rw [Nat.zero_add]; exact (h.cell j).trans (S_get ss j hj)⟩

/-- All the bytes of a list of strings. -/
def tot (ss : List ByteArray) : Nat := (ss.map ByteArray.size).sum
theorem tot_take_succ (ss : List ByteArray) (k : Nat) (h : k < ss.length) : tot (ss.take (k + 1)) = tot (ss.take k) + (ss.getD k ByteArray.empty).size := by
  unfold tot
  rw [List.take_succ_eq_append_getElem h, List.map_append, List.sum_append_nat]
  have e : ss.getD k ByteArray.empty = ss[k] := by simp [List.getD, h]
  rw [e]
  rfl
theorem tot_take_le (ss : List ByteArray) (k : Nat) : tot (ss.take k) ≤ tot ss := by
  unfold tot
  have h := congrArg (fun l => (l.map ByteArray.size).sum) (List.take_append_drop k ss)
  simp only [List.map_append, List.sum_append_nat] at h
  omega
theorem tot_all (ss : List ByteArray) : tot (ss.take ss.length) = tot ss := by rw [List.take_length]

end Go.Proofs.Qxb6604626a
