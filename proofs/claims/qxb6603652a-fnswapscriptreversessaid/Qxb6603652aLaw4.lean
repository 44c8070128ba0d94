/-
  THE WALK OF FnSwapScriptReverses (function 4).
-/
import Derived.Test.Qxb6603652aLaw3
namespace Go.Proofs.Qxb6603652a
open Go.RowKit Go.Deep

/-- The list behind the first k swaps of the script. -/
def script (zs : List Int) : Nat → List Int
  | 0 => zs
  | k + 1 => swapL (script zs k) k (zs.length - 1 - k)

theorem script_len (zs : List Int) (k : Nat) : (script zs k).length = zs.length := by
  induction k with
  | zero => rfl
  | succ k ih => rw [script, swapL_len, ih]

theorem script_get (zs : List Int) (k : Nat) (hk : k ≤ zs.length / 2) (t : Nat) (ht : t < zs.length) :
    (script zs k).getD t 0 = zs.getD (if t < k ∨ zs.length - 1 - t < k then zs.length - 1 - t else t) 0 := by
  induction k generalizing t with
  | zero => rw [if_neg (by omega)]; rfl
  | succ k ih =>
    rw [script, swapL_get _ _ _ _ (by rw [script_len]; exact ht), ih (by omega) _ (by split <;> (try split) <;> omega)]
    congr 1
    by_cases h1 : t = k
    · subst h1
      rw [if_pos rfl, if_neg (by omega), if_pos (by omega)]
    · by_cases h2 : t = zs.length - 1 - k
      · rw [if_neg h1, if_pos h2, if_neg (by omega), if_pos (by omega)]; omega
      · rw [if_neg h1, if_neg h2]
        by_cases h3 : t < k ∨ zs.length - 1 - t < k
        · rw [if_pos h3, if_pos (by omega)]
        · rw [if_neg h3, if_neg (by omega)]

theorem script_rev (zs : List Int) (t : Nat) (ht : t < zs.length) : (script zs (zs.length / 2)).getD t 0 = zs.getD (zs.length - 1 - t) 0 := by
  rw [script_get zs _ (Nat.le_refl _) t ht]
  congr 1
  split <;> omega

theorem size8_yes (a : Option Addr) (n c : Nat) (w : World) (h : n ≤ 1048576) :
    Calls Try.prog 8 #[.slice a n c] w fun e w' => e = .returned (.bool true) ∧ w' = w := by
  go_enter Try.func8, Try.ntmps8
  go_wp2
  go_ret
  exact ⟨rfl, rfl⟩
theorem size8_no (a : Option Addr) (n c : Nat) (w : World) (h : 1048576 < n) :
    Calls Try.prog 8 #[.slice a n c] w fun e w' => e = .returned (.bool false) ∧ w' = w := by
  go_enter Try.func8, Try.ntmps8
  go_wp2
  go_ret
  exact ⟨rfl, rfl⟩

theorem law4_big (a : Option Addr) (n c : Nat) (w : World) (h : 65536 < n) :
    Calls Try.prog 4 #[.slice a n c] w fun e w' => e = .returned (.bool true) ∧ w' = w := by
  by_cases h2 : n ≤ 1048576
  · go_enter Try.func4, Try.ntmps4
    go_wp2_with fail
    refine (size8_yes a n c w h2).mono ?_
    rintro e w' ⟨rfl, rfl⟩
    go_wp2
    go_ret
    exact ⟨rfl, rfl⟩
  · go_enter Try.func4, Try.ntmps4
    go_wp2_with fail
    refine (size8_no a n c w (by omega)).mono ?_
    rintro e w' ⟨rfl, rfl⟩
    go_wp2
    go_ret
    exact ⟨rfl, rfl⟩

theorem swap7_at (b i j cap n : Nat) (J : Int) (zs : List Int) (w : World) (hn : zs.length = n) (hJ : J = (j : Int)) (hi : i < n) (hj : j < n) (ha : Arr 3 w b (I zs)) :
    Calls Try.prog 7 #[.slice (some ⟨b, 0, none⟩) n cap, .int .i64 i, .int .i64 J] w fun e w' => e = .returned (.tuple #[]) ∧ Arr 3 w' b (I (swapL zs i j)) ∧ Only b w w' := by
  subst hn hJ
  exact swap7 b i j cap zs w hi hj ha

theorem law4_nil (w : World) : Calls Try.prog 4 #[.slice none 0 0] w fun e w' => e = .returned (.bool true) ∧ w' = w := by
  go_enter Try.func4, Try.ntmps4
  go_wp2_with fail
  refine (size8_yes _ _ _ w (by omega)).mono ?_
  rintro e w' ⟨rfl, rfl⟩
  go_wp2_with fail
  refine (clone_nil w').mono ?_
  rintro e w1 ⟨rfl, rfl⟩
  go_wp2_with fail
  refine (clone_nil w1).mono ?_
  rintro e w2 ⟨rfl, rfl⟩
  go_wp2
  refine wp_loop_rounds 1 ?_
  rw [rounds_succ]
  go_wp2
  refine wp_loop_rounds 1 ?_
  rw [rounds_succ]
  go_wp2
  go_ret
  exact ⟨rfl, rfl⟩

set_option maxHeartbeats 1000000 in
theorem law4_in (b off : Nat) (spot : Option Nat) (cap : Nat) (zs : List Int) (w : World) (hm : zs.length ≤ 65536)
    (hc : ∀ i, i < zs.length → w.cell? ((⟨b, off, spot⟩ : Addr).add i) = some (.int .i64 (zs.getD i 0))) :
    Calls Try.prog 4 #[.slice (some ⟨b, off, spot⟩) zs.length cap] w fun e w' => e = .returned (.bool true) ∧ Below w.heap.size w w' := by
  go_enter Try.func4, Try.ntmps4
  go_wp2_with fail
  refine (size8_yes _ _ _ w (by omega)).mono ?_
  rintro e w' ⟨rfl, rfl⟩
  go_wp2_with fail
  refine (clone_ex b off spot cap zs w' (by omega) hc).mono ?_
  rintro e w1 ⟨g1, rfl, hg1, ha1, hb1⟩
  clear hc
  go_wp2_with fail
  refine (clone_arr g1 zs.length zs w1 (by omega) ha1).mono ?_
  rintro e w2 ⟨g2, rfl, hg2, ha2, hb2⟩
  have hne : g1 ≠ g2 := by have := ha1.lt; omega
  have ha1' := ha1.below hb2 ha1.lt
  have hB : Below w'.heap.size w' w2 := hb1.trans (hb2.mono hb1.size)
  have hg2' : w'.heap.size ≤ g2 := by have := hb1.size; omega
  clear ha1 hb1 hb2 hg2
  go_wp2_with fail
  go_loopw [5] (fun t wr => ∃ k : Nat, k ≤ zs.length / 2 ∧ t = .int .i64 k ∧ Arr 3 wr g1 (I zs) ∧ Arr 3 wr g2 (I (script zs k)) ∧ Below w'.heap.size w' wr) (fun t _ => zs.length / 2 - (intOf t).toNat)
  case atStart => exact ⟨0, Nat.zero_le _, rfl, ha1', ha2, hB⟩
  case round =>
    clear ha1' ha2 hB
    obtain ⟨k, hk, rfl, h1, h2, h3⟩ := hrel
    by_cases hlt : k < zs.length / 2
    · have hlt' : (k : Int) < (zs.length : Int) / 2 := by omega
      go_wp2_with fail
      refine (swap7_at g2 k (zs.length - 1 - k) zs.length zs.length _ (script zs k) wr (script_len zs k) (by omega) (by omega) (by omega) h2).mono ?_
      rintro e w4 ⟨rfl, ha4, ho4⟩
      have R : Hid (Arr 3 w4 g1 (I zs) ∧ Arr 3 w4 g2 (I (script zs (k + 1))) ∧ Below w'.heap.size w' w4) := ⟨ho4.arr hne h1, ha4, h3.trans (ho4.below hg2')⟩
      clear ha4 ho4 h1 h2 h3
      go_wp2
      go_roundw
      case rel => exact ⟨k + 1, by omega, by go_num, R.1, R.2.1, R.2.2⟩
      case measure => simp [intOf]; omega
    · have hge : ¬ (k : Int) < (zs.length : Int) / 2 := by omega
      have hke : k = zs.length / 2 := by omega
      rw [hke] at h2
      clear hke
      go_wp2_with fail
      go_loopw [6] (fun t wr => ∃ k : Nat, k ≤ zs.length ∧ t = .int .i64 k ∧ Arr 3 wr g1 (I zs) ∧ Arr 3 wr g2 (I (script zs (zs.length / 2))) ∧ Below w'.heap.size w' wr) (fun t _ => zs.length - (intOf t).toNat)
      case atStart => exact ⟨0, Nat.zero_le _, rfl, h1, h2, h3⟩
      case round =>
        clear h1 h2 h3 hge hlt hk
        obtain ⟨m, hk, rfl, h1, h2, h3⟩ := hrel
        by_cases hlt : m < zs.length
        · have hlt' : (m : Int) < (zs.length : Int) := by omega
          obtain ⟨r, hr⟩ : ∃ r, r = zs.length - 1 - m := ⟨_, rfl⟩
          have hrl : (r : Int) < (zs.length : Int) := by omega
          have hw1 : IntKind.i64.wrap ((zs.length : Int) - 1) = (zs.length : Int) - 1 := by rw [IntKind.wrap_i64]; omega
          have hw2 : IntKind.i64.wrap ((zs.length : Int) - 1 - (m : Int)) = (r : Int) := by rw [IntKind.wrap_i64]; omega
          obtain ⟨x, hx⟩ : ∃ x, x = zs.getD (zs.length - 1 - m) 0 := ⟨_, rfl⟩
          have c1 : wr.cell? ⟨g1, r, none⟩ = some (.int .i64 x) := by
            rw [hx, ← hr]; exact (h1.cell _).trans (I_get _ _ (by omega))
          have c2 : wr.cell? ⟨g2, m, none⟩ = some (.int .i64 x) := by
            rw [hx, ← script_rev zs m hlt]; exact (h2.cell m).trans (I_get _ _ (by rw [script_len]; exact hlt))
          have HR : Hid (Arr 3 wr g1 (I zs) ∧ Arr 3 wr g2 (I (script zs (zs.length / 2))) ∧ Below w'.heap.size w' wr) := ⟨h1, h2, h3⟩
          clear h1 h2 h3 hx hr
          go_wp2
          go_quiet (fail)
          go_wp2
          go_roundw
          case rel => exact ⟨m + 1, by omega, by go_num, HR.1, HR.2.1, bdrewN HR.2.2 _⟩
          case measure => simp [intOf]; omega
        · go_wp2
          go_ret
          exact ⟨rfl, h3⟩
end Go.Proofs.Qxb6603652a
