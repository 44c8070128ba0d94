/-
  THE WALK OF FnSwapIsTranspositionAndInvolution (function 3).
-/
import Derived.Test.Qxb6603652aSwap
namespace Go.Proofs.Qxb6603652a
open Go.RowKit Go.Deep

theorem swapL_get (zs : List Int) (i j k : Nat) (hk : k < zs.length) : (swapL zs i j).getD k 0 = zs.getD (if k = i then j else if k = j then i else k) 0 := by
  unfold swapL
  simp only [List.getD, List.getElem?_set, List.length_set]
  by_cases h1 : k = i
  · subst h1
    by_cases h2 : j = k
    · subst h2; simp [hk]
    · simp [h2, hk]
  · by_cases h2 : k = j
    · subst h2
      simp [h1, hk]
    · simp [h1, h2, show ¬ j = k by omega, show ¬ i = k by omega]

theorem ext_getD (xs ys : List Int) (hl : xs.length = ys.length) (h : ∀ k, k < xs.length → xs.getD k 0 = ys.getD k 0) : xs = ys := by
  apply List.ext_getElem hl
  intro k h1 h2
  have := h k h1
  simpa [List.getD, h1, h2] using this

theorem swapL_swapL (zs : List Int) (i j : Nat) (hi : i < zs.length) (hj : j < zs.length) : swapL (swapL zs i j) j i = zs := by
  apply ext_getD
  · simp [swapL_len]
  · intro k hk
    simp only [swapL_len] at hk
    rw [swapL_get _ _ _ _ (by simpa [swapL_len] using hk), swapL_get _ _ _ _ (by split <;> (try split) <;> omega)]
    congr 1
    split <;> (try split) <;> (try split) <;> (try split) <;> omega

theorem clone_ex (b off : Nat) (spot : Option Nat) (cap : Nat) (zs : List Int) (w : World) (hm : zs.length ≤ 1048576)
    (hc : ∀ i, i < zs.length → w.cell? ((⟨b, off, spot⟩ : Addr).add i) = some (.int .i64 (zs.getD i 0))) :
    Calls Try.prog 6 #[.slice (some ⟨b, off, spot⟩) zs.length cap] w fun e w' => ∃ g, e = .returned (.slice (some ⟨g, 0, none⟩) zs.length zs.length) ∧ w.heap.size ≤ g ∧ Arr 3 w' g (I zs) ∧ Below w.heap.size w w' := by
  refine (clone_some b off spot cap zs w hm hc).mono ?_
  rintro e w' ⟨rfl, h1, h2, h3⟩
  exact ⟨_, rfl, Nat.le_refl _, h1, h2⟩

theorem clone_arr (b cap : Nat) (zs : List Int) (w : World) (hm : zs.length ≤ 1048576) (ha : Arr 3 w b (I zs)) :
    Calls Try.prog 6 #[.slice (some ⟨b, 0, none⟩) zs.length cap] w fun e w' => ∃ g, e = .returned (.slice (some ⟨g, 0, none⟩) zs.length zs.length) ∧ w.heap.size ≤ g ∧ Arr 3 w' g (I zs) ∧ Below w.heap.size w w' := by
  refine clone_ex b 0 none cap zs w hm fun i hi => ?_
  rw [Addr.add_lit, Nat.zero_add, ha.cell i]
  exact I_get zs i hi

/-! ### The size tests -/
theorem size5_yes (a : Option Addr) (n c : Nat) (i j : Int) (w : World) (h : n ≤ 1048576) :
    Calls Try.prog 5 #[.slice a n c, .int .i64 i, .int .i64 j] w fun e w' => e = .returned (.bool true) ∧ w' = w := by
  go_enter Try.func5, Try.ntmps5
  go_wp2
  go_ret
  exact ⟨rfl, rfl⟩
theorem size5_no (a : Option Addr) (n c : Nat) (i j : Int) (w : World) (h : 1048576 < n) :
    Calls Try.prog 5 #[.slice a n c, .int .i64 i, .int .i64 j] w fun e w' => e = .returned (.bool false) ∧ w' = w := by
  go_enter Try.func5, Try.ntmps5
  go_wp2
  go_ret
  exact ⟨rfl, rfl⟩

/-! ### Outside: the law answers true at once -/
theorem law3_big (a : Option Addr) (n c : Nat) (i j : Int) (w : World) (h : 65536 < n) :
    Calls Try.prog 3 #[.slice a n c, .int .i64 i, .int .i64 j] w fun e w' => e = .returned (.bool true) ∧ w' = w := by
  by_cases h2 : n ≤ 1048576
  · go_enter Try.func3, Try.ntmps3
    go_wp2_with fail
    refine (size5_yes a n c i j w h2).mono ?_
    rintro e w' ⟨rfl, rfl⟩
    go_wp2
    go_ret
    exact ⟨rfl, rfl⟩
  · go_enter Try.func3, Try.ntmps3
    go_wp2_with fail
    refine (size5_no a n c i j w (by omega)).mono ?_
    rintro e w' ⟨rfl, rfl⟩
    go_wp2
    go_ret
    exact ⟨rfl, rfl⟩

theorem law3_out (a : Option Addr) (n c : Nat) (i j : Int) (w : World) (h : n ≤ 65536) (ho : i < 0 ∨ (n : Int) ≤ i ∨ j < 0 ∨ (n : Int) ≤ j) :
    Calls Try.prog 3 #[.slice a n c, .int .i64 i, .int .i64 j] w fun e w' => e = .returned (.bool true) ∧ w' = w := by
  by_cases h1 : i < 0
  · go_enter Try.func3, Try.ntmps3
    go_wp2_with fail
    refine (size5_yes a n c i j w (by omega)).mono ?_
    rintro e w' ⟨rfl, rfl⟩
    go_wp2
    go_ret
    exact ⟨rfl, rfl⟩
  by_cases h2 : (n : Int) ≤ i
  · go_enter Try.func3, Try.ntmps3
    go_wp2_with fail
    refine (size5_yes a n c i j w (by omega)).mono ?_
    rintro e w' ⟨rfl, rfl⟩
    go_wp2
    go_ret
    exact ⟨rfl, rfl⟩
  by_cases h3 : j < 0
  · go_enter Try.func3, Try.ntmps3
    go_wp2_with fail
    refine (size5_yes a n c i j w (by omega)).mono ?_
    rintro e w' ⟨rfl, rfl⟩
    go_wp2
    go_ret
    exact ⟨rfl, rfl⟩
  have h4 : (n : Int) ≤ j := by omega
  go_enter Try.func3, Try.ntmps3
  go_wp2_with fail
  refine (size5_yes a n c i j w (by omega)).mono ?_
  rintro e w' ⟨rfl, rfl⟩
  go_wp2
  go_ret
  exact ⟨rfl, rfl⟩

set_option maxHeartbeats 1000000 in
theorem law3_in (b off : Nat) (spot : Option Nat) (cap i j : Nat) (zs : List Int) (w : World) (hm : zs.length ≤ 65536) (hi : i < zs.length) (hj : j < zs.length)
    (hc : ∀ i, i < zs.length → w.cell? ((⟨b, off, spot⟩ : Addr).add i) = some (.int .i64 (zs.getD i 0))) :
    Calls Try.prog 3 #[.slice (some ⟨b, off, spot⟩) zs.length cap, .int .i64 i, .int .i64 j] w fun e w' => e = .returned (.bool true) ∧ Below w.heap.size w w' := by
  go_enter Try.func3, Try.ntmps3
  go_wp2_with fail
  refine (size5_yes _ _ _ _ _ w (by omega)).mono ?_
  rintro e w' ⟨rfl, rfl⟩
  go_wp2_with fail
  refine (clone_ex b off spot cap zs w' (by omega) hc).mono ?_
  rintro e w1 ⟨g1, rfl, hg1, ha1, hb1⟩
  clear hc
  go_wp2_with fail
  refine (clone_arr g1 zs.length zs w1 (by omega) ha1).mono ?_
  rintro e w2 ⟨g2, rfl, hg2, ha2, hb2⟩
  have hne : g1 ≠ g2 := by have := ha1.lt; omega
  have ha1' := ha1.below hb2 ha1.lt
  have hB : Below w'.heap.size w' w2 := hb1.trans (hb2.mono hb1.size)
  have hg2' : w'.heap.size ≤ g2 := by have := hb1.size; omega
  clear ha1 hb1 hb2 hg2
  go_wp2_with fail
  refine (swap7 g2 i j zs.length zs w2 hi hj ha2).mono ?_
  rintro e w3 ⟨rfl, ha3, ho⟩
  have ha1'' := ho.arr hne ha1'
  have hB3 := hB.trans (ho.below hg2')
  clear ha1' hB ho ha2
  go_wp2_with fail
  go_loopw [8] (fun t wr => ∃ k : Nat, k ≤ zs.length ∧ t = .int .i64 k ∧ Arr 3 wr g1 (I zs) ∧ Arr 3 wr g2 (I (swapL zs i j)) ∧ Below w'.heap.size w' wr) (fun t _ => zs.length - (intOf t).toNat)
  case atStart => exact ⟨0, Nat.zero_le _, rfl, ha1'', ha3, hB3⟩
  case round =>
    clear ha1'' ha3 hB3
    obtain ⟨k, hk, rfl, h1, h2, h3⟩ := hrel
    by_cases hlt : k < zs.length
    · have hlt' : (k : Int) < (zs.length : Int) := by omega
      have hi' : (i : Int) < (zs.length : Int) := by omega
      have hj' : (j : Int) < (zs.length : Int) := by omega
      have hv := swapL_get zs i j k hlt
      obtain ⟨x, hx⟩ : ∃ x, x = (swapL zs i j).getD k 0 := ⟨_, rfl⟩
      have c2 : wr.cell? ⟨g2, k, none⟩ = some (.int .i64 x) := by rw [hx]; exact (h2.cell k).trans (I_get _ _ (by rw [swapL_len]; exact hlt))
      have HR : Hid (Arr 3 wr g1 (I zs) ∧ Arr 3 wr g2 (I (swapL zs i j)) ∧ Below w'.heap.size w' wr) := ⟨h1, h2, h3⟩
      rw [hv] at hx
      clear h2 h3 hv
      by_cases e1 : k = i
      · have c1 : wr.cell? ⟨g1, j, none⟩ = some (.int .i64 x) := by rw [hx, if_pos e1]; exact (h1.cell j).trans (I_get _ _ hj)
        have t1 : ((k : Int) == (i : Int)) = true := by simp [e1]
        clear h1 hx e1
        go_wp2
        go_quiet (fail)
        go_wp2
        go_roundw
        case rel => exact ⟨k + 1, by omega, by go_num, HR.1, HR.2.1, bdrewN HR.2.2 _⟩
        case measure => simp [intOf]; omega
      · have t1 : ((k : Int) == (i : Int)) = false := beq_eq_false_iff_ne.2 (by omega)
        by_cases e2 : k = j
        · have c1 : wr.cell? ⟨g1, i, none⟩ = some (.int .i64 x) := by rw [hx, if_neg e1, if_pos e2]; exact (h1.cell i).trans (I_get _ _ hi)
          have t2 : ((k : Int) == (j : Int)) = true := by simp [e2]
          clear h1 hx e1 e2
          go_wp2
          go_quiet (fail)
          go_wp2
          go_roundw
          case rel => exact ⟨k + 1, by omega, by go_num, HR.1, HR.2.1, bdrewN HR.2.2 _⟩
          case measure => simp [intOf]; omega
        · have c1 : wr.cell? ⟨g1, k, none⟩ = some (.int .i64 x) := by rw [hx, if_neg e1, if_neg e2]; exact (h1.cell k).trans (I_get _ _ hlt)
          have t2 : ((k : Int) == (j : Int)) = false := beq_eq_false_iff_ne.2 (by omega)
          clear h1 hx e1 e2
          go_wp2
          go_quiet (fail)
          go_wp2
          go_roundw
          case rel => exact ⟨k + 1, by omega, by go_num, HR.1, HR.2.1, bdrewN HR.2.2 _⟩
          case measure => simp [intOf]; omega
    · go_wp2_with fail
      have hL := swapL_len zs i j
      have HS := swap7 g2 j i zs.length (swapL zs i j) wr (by omega) (by omega) h2
      rw [swapL_swapL zs i j hi hj, hL] at HS
      refine HS.mono ?_
      rintro e w4 ⟨rfl, ha4, ho4⟩
      have ha1 := ho4.arr hne h1
      have hB4 := h3.trans (ho4.below hg2')
      clear HS hL ho4 h1 h2 h3 hlt hk
      go_wp2_with fail
      go_loopw [10] (fun t wr => ∃ k : Nat, k ≤ zs.length ∧ t = .int .i64 k ∧ Arr 3 wr g1 (I zs) ∧ Arr 3 wr g2 (I zs) ∧ Below w'.heap.size w' wr) (fun t _ => zs.length - (intOf t).toNat)
      case atStart => exact ⟨0, Nat.zero_le _, rfl, ha1, ha4, hB4⟩
      case round =>
        clear ha1 ha4 hB4
        obtain ⟨k, hk, rfl, h1, h2, h3⟩ := hrel
        by_cases hlt : k < zs.length
        · have hlt' : (k : Int) < (zs.length : Int) := by omega
          obtain ⟨x, hx⟩ : ∃ x, x = zs.getD k 0 := ⟨_, rfl⟩
          have c1 : wr.cell? ⟨g1, k, none⟩ = some (.int .i64 x) := by rw [hx]; exact (h1.cell k).trans (I_get _ _ hlt)
          have c2 : wr.cell? ⟨g2, k, none⟩ = some (.int .i64 x) := by rw [hx]; exact (h2.cell k).trans (I_get _ _ hlt)
          have HR : Hid (Arr 3 wr g1 (I zs) ∧ Arr 3 wr g2 (I zs) ∧ Below w'.heap.size w' wr) := ⟨h1, h2, h3⟩
          clear h1 h2 h3 hx
          go_wp2
          go_quiet (fail)
          go_wp2
          go_roundw
          case rel => exact ⟨k + 1, by omega, by go_num, HR.1, HR.2.1, bdrewN HR.2.2 _⟩
          case measure => simp [intOf]; omega
        · go_wp2
          go_ret
          exact ⟨rfl, h3⟩
end Go.Proofs.Qxb6603652a
