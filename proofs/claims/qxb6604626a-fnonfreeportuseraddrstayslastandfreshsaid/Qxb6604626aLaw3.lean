/-
  THE WALK OF FnOnFreePortUserAddrStaysLastAndFresh (function 3).
-/
import Derived.Test.Qxb6604626aParts
import Derived.Deep.DeepCutAuto
namespace Go.Proofs.Qxb6604626a
open Go.RowKit Go.Deep
set_option linter.unusedVariables false

/-! ### The plain law -/
/-- Is it the word that is looked for, minus-addr? As the walk spells the test. -/
def isA (s : ByteArray) : Bool := s.toList == [45, 97, 100, 100, 114]
/-- The last place below k at which it stands, or -1. -/
def lastA (ss : List ByteArray) : Nat → Int
  | 0 => -1
  | k + 1 => if isA (ss.getD k ByteArray.empty) then (k : Int) else lastA ss k
/-- How often it stands below k. -/
def cntA (ss : List ByteArray) : Nat → Nat
  | 0 => 0
  | k + 1 => if isA (ss.getD k ByteArray.empty) then cntA ss k + 1 else cntA ss k
theorem lastA_bd (ss : List ByteArray) (k : Nat) : -1 ≤ lastA ss k ∧ lastA ss k < k := by
  induction k with
  | zero => simp [lastA]
  | succ k ih => unfold lastA; split <;> omega
theorem cntA_le (ss : List ByteArray) (k : Nat) : cntA ss k ≤ k := by
  induction k with
  | zero => simp [cntA]
  | succ k ih => unfold cntA; split <;> omega
theorem isA_addr : isA addr = true := by decide +kernel
theorem isA_port : isA port = false := by decide +kernel
theorem lastA_free (ss : List ByteArray) (k : Nat) : lastA (addr :: port :: ss) (k + 2) = if 0 ≤ lastA ss k then lastA ss k + 2 else 0 := by
  induction k with
  | zero =>
    simp [lastA, isA_addr, isA_port]
  | succ k ih =>
    have e : (addr :: port :: ss).getD (k + 2) ByteArray.empty = ss.getD k ByteArray.empty := by simp [List.getD]
    rw [show k + 1 + 2 = (k + 2) + 1 by omega, lastA, e, ih]
    conv => rhs; rw [lastA]
    by_cases h : isA (ss.getD k ByteArray.empty) = true
    · rw [if_pos h, if_pos h, if_pos (by omega)]; omega
    · rw [if_neg h, if_neg h]
theorem cntA_free (ss : List ByteArray) (k : Nat) : cntA (addr :: port :: ss) (k + 2) = cntA ss k + 1 := by
  induction k with
  | zero =>
    simp [cntA, isA_addr, isA_port]
  | succ k ih =>
    have e : (addr :: port :: ss).getD (k + 2) ByteArray.empty = ss.getD k ByteArray.empty := by simp [List.getD]
    rw [show k + 1 + 2 = (k + 2) + 1 by omega, cntA, e, ih]
    conv => rhs; rw [cntA]
    by_cases h : isA (ss.getD k ByteArray.empty) = true
    · rw [if_pos h, if_pos h]
    · rw [if_neg h, if_neg h]

/-! ### The call, its length under a name -/
def FreeAt (w : World) (ss : List ByteArray) (N : Nat) (e : Ending) (w' : World) : Prop :=
  ∃ g cap rest, e = .returned (.slice (some ⟨g, 0, none⟩) N cap) ∧ w.heap.size ≤ g ∧ Arr 9 w' g (S (addr :: port :: ss) ++ rest) ∧ Below w.heap.size w w'
theorem free6N (a : Option Addr) (cap : Nat) (ss : List ByteArray) (N : Nat) (w : World) (hN : N = 2 + ss.length) (hz : a = none → ss = [] ∧ cap = 0) (hm : ss.length ≤ 1048576) (hc : Src w a ss) :
    Calls Try.prog 6 #[.slice a ss.length cap] w fun e w' => FreeAt w ss N e w' := by
  subst hN
  exact free6 a cap ss w hz hm hc
/-- There are N cells that can be written. -/
def Room (w : World) (g N : Nat) : Prop := ∃ xs : List Value, Arr 9 w g xs ∧ N ≤ xs.length
theorem Room.cell {w : World} {g N k : Nat} (h : Room w g N) (hk : k < N) : (∃ v, w.cell? ⟨g, k, none⟩ = some v) ∧ w.frozen? ⟨g, k, none⟩ = false := by
  obtain ⟨xs, ha, hl⟩ := h
  exact ⟨⟨xs[k], (ha.cell k).trans (List.getElem?_eq_getElem (by omega))⟩, ha.frozen k⟩
theorem Room.setCell {w : World} {g N : Nat} (h : Room w g N) (k : Nat) (v : Value) : Room (w.setCell ⟨g, k, none⟩ v) g N := by
  obtain ⟨xs, ha, hl⟩ := h
  exact ⟨_, ha.setCell k v, by simpa using hl⟩

set_option maxRecDepth 100000 in
set_option maxHeartbeats 4000000 in
theorem law3 (a1 : Option Addr) (c1 : Nat) (ss : List ByteArray) (w : World) (z1 : a1 = none → ss = [] ∧ c1 = 0) (h1 : Src w a1 ss) (m1 : ss.length ≤ maxLen) :
    Calls Try.prog 3 #[.slice a1 ss.length c1] w fun e w' => e = .returned (.bool true) ∧ Below w.heap.size w w' := by
  have H4 := bytes4 a1 c1 ss w h1 m1
  unfold maxLen at m1
  go_enter Try.func3, Try.ntmps3
  go_wp2_with fail
  refine H4.mono ?_
  clear H4
  rintro e w' ⟨r, rfl, rfl, hr⟩
  cases r with
  | false =>
    go_wp2
    go_ret
    exact ⟨rfl, Below.refl _ _⟩
  | true =>
    have hm := hr rfl
    clear hr
    by_cases hb1 : 65536 < ss.length
    · go_wp2
      go_ret
      exact ⟨rfl, Below.refl _ _⟩
    go_wp2
    go_loop [3, 4] (fun z i => ∃ k Z : Nat, k ≤ ss.length ∧ Hid (Z = 16 * ss.length + tot (ss.take k)) ∧ Z ≤ 17825792 ∧ i = .int .i64 k ∧ z = .int .i64 Z) (fun _ i => ss.length - (intOf i).toNat)
    case atStart => exact ⟨0, 16 * ss.length, Nat.zero_le _, by simp [Hid, tot], by omega, rfl, by go_num⟩
    case round =>
      obtain ⟨k, Z, hk, hZ, hZ2, rfl, rfl⟩ := hrel
      by_cases hlt : k < ss.length
      · have hlt' : (k : Int) < (ss.length : Int) := by omega
        obtain ⟨b, off, rfl, hc⟩ := h1.at hlt
        have ht := tot_take_succ ss k hlt
        have hle := tot_take_le ss (k + 1)
        obtain ⟨s, hs⟩ : ∃ s, s = ss.getD k ByteArray.empty := ⟨_, rfl⟩
        rw [← hs] at hc ht
        have hsz : s.size ≤ 1048576 := by omega
        have HT : Hid (tot (ss.take (k + 1)) = tot (ss.take k) + s.size ∧ Z + s.size ≤ 17825792) := ⟨ht, by have := hZ.out; omega⟩
        clear ht hs h1 hle z1
        by_cases hb2 : 1048576 < Z + s.size
        · go_wp2
          go_ret
          exact ⟨rfl, Below.refl _ _⟩
        go_wp2
        go_round
        case rel => exact ⟨k + 1, Z + s.size, by omega, by have := hZ.out; have := HT.1; unfold Hid; omega, HT.2, by go_num, by go_num⟩
        case measure => simp [intOf]; omega
      · clear hZ hZ2
        go_wp2_with fail
        clear hlt hk
        refine (clone5 a1 c1 ss w' z1 (by omega) h1).mono ?_
        rintro e w2 ⟨d1, k1, rfl, zd1, s1, b1⟩
        have h2 := h1.later (Nat.le_refl _) b1
        clear h1
        go_wp2_with fail
        refine (clone5 a1 c1 ss w2 z1 (by omega) h2).mono ?_
        rintro e w3 ⟨d2, k2, rfl, zd2, s2, b2⟩
        have s1' := s1.later (Nat.le_refl _) b2
        have B3 : Below w'.heap.size w' w3 := b1.trans (b2.mono b1.size)
        clear s1 h2 z1 b1 b2 zd1
        go_wp2
        go_loop [6, 7, 8] (fun l c i => ∃ k C : Nat, ∃ L : Int, k ≤ ss.length ∧ Hid (C = cntA ss k ∧ L = lastA ss k) ∧ C ≤ k ∧ -1 ≤ L ∧ L < k ∧ i = .int .i64 k ∧ c = .int .i64 C ∧ l = .int .i64 L) (fun _ _ i => ss.length - (intOf i).toNat)
        case atStart => exact ⟨0, 0, -1, Nat.zero_le _, ⟨rfl, rfl⟩, by omega, by omega, by omega, rfl, rfl, rfl⟩
        case round =>
          obtain ⟨k, C, L, hk, hCL, hC1, hL1, hL2, rfl, rfl, rfl⟩ := hrel
          by_cases hlt : k < ss.length
          · have hlt' : (k : Int) < (ss.length : Int) := by omega
            obtain ⟨b, off, rfl, hc⟩ := s2.at hlt
            obtain ⟨s, hs⟩ : ∃ s, s = ss.getD k ByteArray.empty := ⟨_, rfl⟩
            rw [← hs] at hc
            have HS : Hid (s = ss.getD k ByteArray.empty) := hs
            clear hs
            by_cases hA : (s.toList == [45, 97, 100, 100, 114]) = true
            · have HT : Hid (C + 1 = cntA ss (k + 1) ∧ (k : Int) = lastA ss (k + 1)) := by
                have hi : isA (ss.getD k ByteArray.empty) = true := by rw [← HS.out]; exact hA
                obtain ⟨q1, q2⟩ := hCL.out
                exact ⟨by rw [cntA, if_pos hi, q1], by rw [lastA, if_pos hi]⟩
              clear hCL HS s1' s2 B3
              go_wp2
              go_round
              case rel => exact ⟨k + 1, C + 1, k, by omega, HT, by omega, by omega, by omega, by go_num, by go_num, rfl⟩
              case measure => simp [intOf]; omega
            · have hA' : (s.toList == [45, 97, 100, 100, 114]) = false := by simpa using hA
              have HT : Hid (C = cntA ss (k + 1) ∧ L = lastA ss (k + 1)) := by
                have hi : ¬ isA (ss.getD k ByteArray.empty) = true := by rw [← HS.out]; exact hA
                obtain ⟨q1, q2⟩ := hCL.out
                exact ⟨by rw [cntA, if_neg hi, q1], by rw [lastA, if_neg hi, q2]⟩
              clear hCL HS hA s1' s2 B3
              go_wp2
              go_round
              case rel => exact ⟨k + 1, C, L, by omega, HT, by omega, by omega, by omega, by go_num, rfl, rfl⟩
              case measure => simp [intOf]; omega
          · have hke : k = ss.length := by omega
            have HCL : Hid (C = cntA ss ss.length ∧ L = lastA ss ss.length) := by have := hCL.out; rw [hke] at this; exact this
            have hC2 : C ≤ 65536 := by omega
            have hL3 : L < 65536 := by omega
            clear hCL hC1 hL2 hke
            go_upto_if 65 with (fail)
            go_cut [9] (fun x wc => ∃ W : Int, Hid (W = if 0 ≤ L then L + 2 else 0) ∧ x = .int .i64 W ∧ w3 = wc)
            case first =>
              by_cases hL0 : 0 ≤ L
              · go_wp2_with fail
                go_meet
                case rel => exact ⟨L + 2, by unfold Hid; rw [if_pos hL0], rfl, rfl⟩
              · go_wp2_with fail
                go_meet
                case rel => exact ⟨0, by unfold Hid; rw [if_neg (by omega)], rfl, rfl⟩
            case rest =>
              obtain ⟨W, HW, rfl, rfl⟩ := hcut
              clear hlt hk
              obtain ⟨N, hN⟩ : ∃ N, N = 2 + ss.length := ⟨_, rfl⟩
              have HF := free6N d2 k2 ss N w3 hN zd2 (by omega) s2
              have HN : Hid (N = 2 + ss.length) := hN
              have hN2 : N ≤ 65538 := by omega
              clear hN zd2
              go_wp2_with fail
              refine HF.mono ?_
              rintro e w4 ⟨g, cap, rest, rfl, hg, ha, hb4⟩
              clear HF
              go_wp2
              go_loop [11, 12, 13] (fun l c i => ∃ k C : Nat, ∃ L : Int, k ≤ N ∧ Hid (C = cntA (addr :: port :: ss) k ∧ L = lastA (addr :: port :: ss) k) ∧ C ≤ k ∧ -1 ≤ L ∧ L < k ∧ i = .int .i64 k ∧ c = .int .i64 C ∧ l = .int .i64 L) (fun _ _ i => N - (intOf i).toNat)
              case atStart => exact ⟨0, 0, -1, Nat.zero_le _, ⟨rfl, rfl⟩, by omega, by omega, by omega, rfl, rfl, rfl⟩
              case round =>
                obtain ⟨j, D, M, hj, hDM, hD1, hM1, hM2, rfl, rfl, rfl⟩ := hrel
                by_cases hlt : j < N
                · have hlt' : (j : Int) < (N : Int) := by omega
                  have hc : w4.cell? ⟨g, j, none⟩ = some (.string ((addr :: port :: ss).getD j ByteArray.empty)) := by
                    have hjl : j < (addr :: port :: ss).length := by have := HN.out; simp; omega
                    rw [ha.cell, List.getElem?_append_left (by rw [S_len]; exact hjl)]
                    exact S_get _ _ hjl
                  obtain ⟨s, hs⟩ : ∃ s, s = (addr :: port :: ss).getD j ByteArray.empty := ⟨_, rfl⟩
                  rw [← hs] at hc
                  have HS : Hid (s = (addr :: port :: ss).getD j ByteArray.empty) := hs
                  clear hs
                  by_cases hA : (s.toList == [45, 97, 100, 100, 114]) = true
                  · have HT : Hid (D + 1 = cntA (addr :: port :: ss) (j + 1) ∧ (j : Int) = lastA (addr :: port :: ss) (j + 1)) := by
                      have hi : isA ((addr :: port :: ss).getD j ByteArray.empty) = true := by rw [← HS.out]; exact hA
                      obtain ⟨q1, q2⟩ := hDM.out
                      exact ⟨by rw [cntA, if_pos hi, q1], by rw [lastA, if_pos hi]⟩
                    clear hDM HS s1' s2 B3 ha hb4
                    go_wp2
                    go_round
                    case rel => exact ⟨j + 1, D + 1, j, by omega, HT, by omega, by omega, by omega, by go_num, by go_num, rfl⟩
                    case measure => simp [intOf]; omega
                  · have hA' : (s.toList == [45, 97, 100, 100, 114]) = false := by simpa using hA
                    have HT : Hid (D = cntA (addr :: port :: ss) (j + 1) ∧ M = lastA (addr :: port :: ss) (j + 1)) := by
                      have hi : ¬ isA ((addr :: port :: ss).getD j ByteArray.empty) = true := by rw [← HS.out]; exact hA
                      obtain ⟨q1, q2⟩ := hDM.out
                      exact ⟨by rw [cntA, if_neg hi, q1], by rw [lastA, if_neg hi, q2]⟩
                    clear hDM HS hA s1' s2 B3 ha hb4
                    go_wp2
                    go_round
                    case rel => exact ⟨j + 1, D, M, by omega, HT, by omega, by omega, by omega, by go_num, rfl, rfl⟩
                    case measure => simp [intOf]; omega
                · have hje : j = ss.length + 2 := by have := HN.out; omega
                  obtain ⟨q1, q2⟩ := hDM.out
                  obtain ⟨q3, q4⟩ := HCL.out
                  rw [hje, lastA_free, ← q4] at q2
                  rw [hje, cntA_free, ← q3] at q1
                  rw [← HW.out] at q2
                  clear hDM HCL HW q3 q4 hje hD1 hM2 hM1
                  subst q2
                  subst q1
                  have hR : Room w4 g N := ⟨_, ha, by have := HN.out; simp [S]; omega⟩
                  clear ha
                  go_wp2
                  clear hlt hj
                  go_loopw [14] (fun i wr => ∃ k : Nat, k ≤ N ∧ i = .int .i64 k ∧ Room wr g N ∧ Below w3.heap.size w3 wr) (fun i _ => N - (intOf i).toNat)
                  case atStart => exact ⟨0, Nat.zero_le _, rfl, hR, hb4⟩
                  case round =>
                    clear hR hb4
                    obtain ⟨p, hp, rfl, hR, hB⟩ := hrel
                    by_cases hlt : p < N
                    · have hlt' : (p : Int) < (N : Int) := by omega
                      obtain ⟨⟨v, hv⟩, hfz⟩ := hR.cell hlt
                      have HR : Hid (∀ u, Room (wr.setCell ⟨g, p, none⟩ u) g N ∧ Below w3.heap.size w3 (wr.setCell ⟨g, p, none⟩ u)) := fun u => ⟨hR.setCell p u, hB.setCell hg u⟩
                      clear hR hB s1' s2 B3
                      go_wp2
                      go_roundw
                      case rel => exact ⟨p + 1, by omega, by go_num, (HR.out _).1, (HR.out _).2⟩
                      case measure => simp [intOf]; omega
                    · have t1 := s1'.later (Nat.le_refl _) hB
                      have t2 := s2.later (Nat.le_refl _) hB
                      have hBF : Below w'.heap.size w' wr := B3.trans (hB.mono B3.size)
                      clear s1' s2 hR hB B3
                      go_wp2
                      go_loopw [15] (fun i wr => ∃ k : Nat, k ≤ ss.length ∧ i = .int .i64 k ∧ Src wr d1 ss ∧ Src wr d2 ss ∧ Below w'.heap.size w' wr) (fun i _ => ss.length - (intOf i).toNat)
                      case atStart => exact ⟨0, Nat.zero_le _, rfl, t1, t2, hBF⟩
                      case round =>
                        clear t1 t2 hBF hlt hp
                        obtain ⟨y, hy, rfl, t1, t2, hBF⟩ := hrel
                        by_cases hlt : y < ss.length
                        · have hlt' : (y : Int) < (ss.length : Int) := by omega
                          have HR : Hid (Src wr d1 ss ∧ Src wr d2 ss ∧ Below w'.heap.size w' wr) := ⟨t1, t2, hBF⟩
                          obtain ⟨b1, o1, rfl, hc1⟩ := t1.at hlt
                          obtain ⟨b2, o2, rfl, hc2⟩ := t2.at hlt
                          obtain ⟨s, hs⟩ : ∃ s, s = ss.getD y ByteArray.empty := ⟨_, rfl⟩
                          rw [← hs] at hc1 hc2
                          clear hs t1 t2 hBF
                          go_wp2
                          go_quiet (fail)
                          go_wp2
                          go_roundw
                          case rel => exact ⟨y + 1, by omega, by go_num, HR.1, HR.2.1, bdrewN HR.2.2 _⟩
                          case measure => simp [intOf]; omega
                        · go_wp2
                          go_ret
                          exact ⟨rfl, hBF⟩
end Go.Proofs.Qxb6604626a
