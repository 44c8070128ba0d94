/-
  THE WALKS OF THE SHARED CALLEES: Swap (function 9), ZZvertexHeapSwap (7), cloneInts (6).
-/
import Derived.Test.Qxb6603652aRows
import Derived.Test.Qxb6603652aArr
import Derived.RegionTactic
import Derived.Lib.SliceRun
import Derived.Deep.OwnRows
import Derived.ChangeAlike
import Derived.Deep.QuietTactic
import Derived.BigQuiet
namespace Go.Proofs.Qxb6603652a
open Go.RowKit Go.Deep

theorem cell?_setCell_some {w : World} {p q : Addr} {x v : Value} (h : w.cell? q = some v) : ∃ v', (w.setCell p x).cell? q = some v' := by
  by_cases e : p = q
  · subst e; exact ⟨x, World.cell?_setCell_same w p x h⟩
  · exact ⟨v, (World.cell?_setCell_other w p q x e).trans h⟩

set_option maxRecDepth 100000 in
set_option maxHeartbeats 400000 in
theorem swap9_cells (b len cap i j : Nat) (x y : Int) (w : World) (hi1 : i < len) (hj1 : j < len)
    (hx : w.cell? ⟨b, i, none⟩ = some (.int .i64 x)) (hy : w.cell? ⟨b, j, none⟩ = some (.int .i64 y))
    (fx : w.frozen? ⟨b, i, none⟩ = false) (fy : w.frozen? ⟨b, j, none⟩ = false) :
    Calls Try.prog 9 #[.slice (some ⟨b, 0, none⟩) len cap, .int .i64 i, .int .i64 j] w fun e w' => e = .returned (.tuple #[]) ∧ w'.Alike ((w.setCell ⟨b, i, none⟩ (.int .i64 y)).setCell ⟨b, j, none⟩ (.int .i64 x)) ∧ w'.tape = w.tape := by
  obtain ⟨v', hy'⟩ := cell?_setCell_some (w := w) (p := ⟨b, i, none⟩) (x := .int .i64 y) (q := ⟨b, j, none⟩) (v := .int .i64 y) hy
  have h1 : (i : Int) < (len : Int) := by omega
  have h2 : (j : Int) < (len : Int) := by omega
  go_enter Try.func9, Try.ntmps9
  go_wp2
  go_region
  all_goals (go_end0; exact ⟨rfl, ⟨rfl, rfl, rfl⟩, rfl⟩)

/-- The list with the numbers at i and j exchanged. -/
def swapL (zs : List Int) (i j : Nat) : List Int := (zs.set i (zs.getD j 0)).set j (zs.getD i 0)
def I (zs : List Int) : List Value := zs.map (Value.int .i64)

theorem I_get (zs : List Int) (j : Nat) (h : j < zs.length) : (I zs)[j]? = some (.int .i64 (zs.getD j 0)) := by
  simp [I, List.getD, h]
theorem I_len (zs : List Int) : (I zs).length = zs.length := by simp [I]
theorem I_set (zs : List Int) (j : Nat) (x : Int) : (I zs).set j (.int .i64 x) = I (zs.set j x) := by simp [I, List.map_set]
theorem swapL_len (zs : List Int) (i j : Nat) : (swapL zs i j).length = zs.length := by simp [swapL]

theorem swap9 (b i j cap : Nat) (zs : List Int) (w : World) (hi : i < zs.length) (hj : j < zs.length) (ha : Arr 3 w b (I zs)) :
    Calls Try.prog 9 #[.slice (some ⟨b, 0, none⟩) zs.length cap, .int .i64 i, .int .i64 j] w fun e w' => e = .returned (.tuple #[]) ∧ Arr 3 w' b (I (swapL zs i j)) ∧ Only b w w' := by
  refine (swap9_cells b zs.length cap i j (zs.getD i 0) (zs.getD j 0) w hi hj ((ha.cell i).trans (I_get zs i hi)) ((ha.cell j).trans (I_get zs j hj)) (ha.frozen i) (ha.frozen j)).mono ?_
  rintro e w' ⟨rfl, ⟨e1, e2, e3⟩, e4⟩
  have h2 := (ha.setCell i (.int .i64 (zs.getD j 0))).setCell j (.int .i64 (zs.getD i 0))
  rw [I_set, I_set] at h2
  have ho := ((Only.refl b w).setCell i (.int .i64 (zs.getD j 0))).setCell j (.int .i64 (zs.getD i 0))
  refine ⟨rfl, h2.other (by rw [e1]), ⟨e2.trans ho.os, e4, e3.trans ho.output, by rw [e1]; exact ho.size, fun k hk => by rw [e1]; exact ho.block k hk⟩⟩

set_option maxHeartbeats 400000 in
theorem swap7 (b i j cap : Nat) (zs : List Int) (w : World) (hi : i < zs.length) (hj : j < zs.length) (ha : Arr 3 w b (I zs)) :
    Calls Try.prog 7 #[.slice (some ⟨b, 0, none⟩) zs.length cap, .int .i64 i, .int .i64 j] w fun e w' => e = .returned (.tuple #[]) ∧ Arr 3 w' b (I (swapL zs i j)) ∧ Only b w w' := by
  have HS := swap9 b i j cap zs w hi hj ha
  clear ha
  go_enter Try.func7, Try.ntmps7
  go_wp2_with fail
  refine HS.mono ?_
  rintro e w' ⟨rfl, h1, h2⟩
  go_wp2
  go_end0
  exact ⟨rfl, h1, h2⟩

theorem Try.info3 : (Try.prog.info? 3).map (fun i => (i.zero, i.size, i.bytes)) = some (some (.int .i64 0), 1, 8) := by kernel_rfl

theorem clone_nil (w : World) : Calls Try.prog 6 #[.slice none 0 0] w fun e w' => e = .returned (.slice none 0 0) ∧ w' = w := by
  have q22 := fun (w : World) (a : Option Addr) (n c n' c' : Nat) => Lib.run_eql_slice_nil (P := Try.prog) w 22 3 a n c n' c' Try.underlying22
  go_enter Try.func6, Try.ntmps6
  go_wp2
  go_ret
  exact ⟨rfl, rfl⟩

/-- What the made row holds when k elements are copied: the first k of zs, then zeros. -/
def half (zs : List Int) (k : Nat) : List Int := zs.take k ++ List.replicate (zs.length - k) 0
theorem half_zero (zs : List Int) : half zs 0 = List.replicate zs.length 0 := by simp [half]
theorem half_all (zs : List Int) : half zs zs.length = zs := by simp [half]
theorem half_len (zs : List Int) (k : Nat) (h : k ≤ zs.length) : (half zs k).length = zs.length := by simp [half]; omega
theorem half_step (zs : List Int) (k : Nat) (h : k < zs.length) : (half zs k).set k (zs.getD k 0) = half zs (k + 1) := by
  have hk : (zs.take k).length = k := by simp; omega
  obtain ⟨m, hm⟩ : ∃ m, zs.length - k = m + 1 := ⟨zs.length - k - 1, by omega⟩
  have hm2 : zs.length - (k + 1) = m := by omega
  unfold half
  rw [hm, hm2, List.replicate_succ, List.set_append_right _ _ (by omega), hk, Nat.sub_self, List.set_cons_zero, List.take_succ_eq_append_getElem h, List.append_assoc]
  simp [List.getD, h]
theorem made_arr (e : TypeId) (w : World) (n : Nat) : Arr e (w.alloc (.cells (madeCells #[.int .i64 0] n) e)) w.heap.size (I (List.replicate n 0)) := by
  have h := heap_alloc_new w (.cells (madeCells #[.int .i64 0] n) e)
  unfold Arr
  rw [h]
  have e2 : madeCells #[.int .i64 0] n = (I (List.replicate n 0)).toArray := by
    apply Array.toList_inj.1
    rw [toList_madeCells_one]
    simp [I]
  rw [e2]

set_option maxHeartbeats 400000 in
theorem clone_some (b off : Nat) (spot : Option Nat) (cap : Nat) (zs : List Int) (w : World) (hm : zs.length ≤ 1048576)
    (hc : ∀ i, i < zs.length → w.cell? ((⟨b, off, spot⟩ : Addr).add i) = some (.int .i64 (zs.getD i 0))) :
    Calls Try.prog 6 #[.slice (some ⟨b, off, spot⟩) zs.length cap] w fun e w' => e = .returned (.slice (some ⟨w.heap.size, 0, none⟩) zs.length zs.length) ∧ Arr 3 w' w.heap.size (I zs) ∧ Below w.heap.size w w' ∧ w'.heap.size = w.heap.size + 1 := by
  have q22 := fun (w : World) (a : Option Addr) (n c n' c' : Nat) => Lib.run_eql_slice_nil (P := Try.prog) w 22 3 a n c n' c' Try.underlying22
  have hmk := fun w => run_make_row' (P := Try.prog) 22 3 (.int .i64 0) 8 Try.underlying22 Try.info3 rfl .i64 .i64 zs.length (by omega) (by omega) w
  go_enter Try.func6, Try.ntmps6
  go_wp2
  go_loopw [4] (fun i wr => ∃ k : Nat, k ≤ zs.length ∧ i = .int .i64 k ∧ Arr 3 wr w.heap.size (I (half zs k)) ∧ Below w.heap.size w wr ∧ wr.heap.size = w.heap.size + 1) (fun i _ => zs.length - (intOf i).toNat)
  case atStart => exact ⟨0, Nat.zero_le _, rfl, by rw [half_zero]; exact made_arr _ _ _, (Below.refl _ _).alloc (Nat.le_refl _) _, by simp⟩
  case round =>
    clear q22 hmk
    obtain ⟨k, hk, rfl, harr, hbel, hsz⟩ := hrel
    by_cases hlt : k < zs.length
    · have hs : spot = none := by
        have := World.cell?_spot (hc 0 (by omega))
        simpa [Addr.add] using this
      subst hs
      have hck : wr.cell? ⟨b, off + k, none⟩ = some (.int .i64 (zs.getD k 0)) := by
        have h1 := hc k hlt
        rw [Addr.add_lit] at h1
        have h2 := hbel.cell (p := ⟨b, off + k, none⟩) (World.block_lt_of_cell? w _ h1)
        exact h2.trans h1
      have hcd : wr.cell? ⟨w.heap.size, k, none⟩ = some (.int .i64 ((half zs k).getD k 0)) := (harr.cell k).trans (I_get _ _ (by rw [half_len _ _ hk]; exact hlt))
      have hfd := harr.frozen k
      have hlt' : (k : Int) < (zs.length : Int) := by omega
      have R0 := half_step zs k hlt
      obtain ⟨x, hx⟩ : ∃ x, x = zs.getD k 0 := ⟨_, rfl⟩
      obtain ⟨y, hy⟩ : ∃ y, y = (half zs k).getD k 0 := ⟨_, rfl⟩
      rw [← hx] at hck R0
      rw [← hy] at hcd
      clear hx hy
      have R1 := harr.setCell k (.int .i64 x)
      rw [I_set, R0] at R1
      clear R0
      have R2 := hbel.setCell (p := ⟨w.heap.size, k, none⟩) (Nat.le_refl _) (.int .i64 x)
      have HR : Hid (Arr 3 (wr.setCell ⟨w.heap.size, k, none⟩ (.int .i64 x)) w.heap.size (I (half zs (k + 1))) ∧ Below w.heap.size w (wr.setCell ⟨w.heap.size, k, none⟩ (.int .i64 x))) := ⟨R1, R2⟩
      have HZ : Hid (wr.heap.size = w.heap.size + 1) := hsz
      clear R1 R2 harr hbel hc hsz
      go_wp2
      go_roundw
      case rel => exact ⟨k + 1, by omega, by go_num, HR.1, HR.2, by simpa [World.setCell] using HZ.out⟩
      case measure => simp [intOf]; omega
    · have hke : k = zs.length := by omega
      subst hke
      rw [half_all] at harr
      go_wp2
      go_ret
      exact ⟨rfl, harr, hbel, hsz⟩
end Go.Proofs.Qxb6603652a
