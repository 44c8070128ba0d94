/-
  A SLICE OF STRINGS THAT CAME IN, AS THE WALKS TAKE IT.
-/
import Derived.Test.Qxb6604626aArr
import Derived.ProofKit
namespace Go.Proofs.Qxb6604626a
open Go.RowKit

/-- WHAT IS KNOWN OF A SLICE OF STRINGS THAT CAME IN: it is nil; or it leads to a row of 'cap' cells, the strings 'zs' (the first 'len' are its elements). -/
def IsStrs (w : World) (a : Option Addr) (len cap : Nat) (zs : List ByteArray) : Prop :=
  (a = none ∧ len = 0 ∧ cap = 0 ∧ zs = []) ∨
  ∃ x, a = some x ∧ len ≤ cap ∧ cap ≤ maxLen ∧ zs.length = cap ∧ ∀ i, i < zs.length → w.cell? (x.add i) = some (.string (zs.getD i ByteArray.empty))

theorem IsStrs.view {w : World} {a : Option Addr} {len cap : Nat} {zs : List ByteArray} (h : IsStrs w a len cap zs) :
    (zs.take len).length = len ∧ (a = none → zs.take len = [] ∧ cap = 0) ∧ Src w a (zs.take len) ∧ (zs.take len).length ≤ maxLen := by
  rcases h with ⟨rfl, rfl, rfl, rfl⟩ | ⟨x, rfl, hl, hm, hz, hc⟩
  · exact ⟨rfl, fun _ => ⟨rfl, rfl⟩, .inl rfl, Nat.zero_le _⟩
  · have hlen : (zs.take len).length = len := by simp; omega
    refine ⟨hlen, fun h => (by cases h), ?_, (by rw [hlen]; exact Nat.le_trans hl hm)⟩
    by_cases h0 : len = 0
    · exact .inl (by simp [h0])
    · obtain ⟨b, off, spot⟩ := x
      have hs : spot = none := by
        have := World.cell?_spot (hc 0 (by omega))
        simpa [Addr.add] using this
      subst hs
      refine .inr ⟨b, off, rfl, fun j hj => ?_⟩
      have h1 := hc j (by omega)
      rw [Addr.add_lit] at h1
      rw [h1]
      have e : (zs.take len).getD j ByteArray.empty = zs.getD j ByteArray.empty := by
        simp [List.getD, show j < len by omega]
      rw [e]

end Go.Proofs.Qxb6604626a
