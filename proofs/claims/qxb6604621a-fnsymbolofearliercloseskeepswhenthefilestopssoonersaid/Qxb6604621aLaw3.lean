/-
  THE WALK OF FnSymbolReadsBackEachLaidOutSymbol (function 3).
-/
import Derived.Test.Qxb6604621aLay
import Derived.Deep.RegionWith
namespace Go.Proofs.Qxb6604621a
open Go.RowKit Go.Deep
set_option linter.unusedVariables false

/-! ### The plain law: the symbol stands where the ends say -/
theorem st_offs (ss1 ss2 : List ByteArray) (i : Nat) : st (tE ss1 ss2) i = offs ss1 ss2 i := by
  cases i <;> rfl
theorem pre_get (ss1 ss2 : List ByteArray) (n i j : Nat) (hi : i < n) (hj : j < (sy ss1 i).length) : (pre ss1 ss2 n)[offs ss1 ss2 i + j]? = (sy ss1 i)[j]? := by
  induction n with
  | zero => omega
  | succ n ih =>
    by_cases h : i = n
    · subst h
      rw [pre, List.append_assoc, List.getElem?_append_right (by rw [pre_len]; omega), pre_len, List.getElem?_append_left (by omega)]
      congr 1
      omega
    · have h1 := offs_mono ss1 ss2 (i + 1) (n - (i + 1))
      rw [show i + 1 + (n - (i + 1)) = n by omega, offs_succ, ← sy_len ss1 i] at h1
      rw [pre, List.append_assoc, List.getElem?_append_left (by rw [pre_len]; omega)]
      exact ih (by omega)
theorem sy_get (ss : List ByteArray) (i : Nat) (s : ByteArray) (hs : s = ss.getD i ByteArray.empty) (j : Nat) (h : j < s.size) : (sy ss i)[j]? = some (s[j]'h) := by
  subst hs
  unfold sy
  rw [List.getElem?_eq_getElem (by rw [ba_len]; exact h)]
  rfl
theorem sE_le (ss1 ss2 : List ByteArray) (i n : Nat) (h : i < n) : sE ss1 ss2 i ≤ offs ss1 ss2 n := by
  have h1 := offs_mono ss1 ss2 (i + 1) (n - (i + 1))
  rw [show i + 1 + (n - (i + 1)) = n by omega, offs_succ, ← sy_len ss1 i] at h1
  unfold sE
  omega

/-! ### The clone, nil or not -/
theorem clone7 (a : Option Addr) (cap : Nat) (ss : List ByteArray) (w : World) (hz : a = none → ss = [] ∧ cap = 0) (hm : ss.length ≤ 1048576) (hc : Src w a ss) :
    Calls Try.prog 7 #[.slice a ss.length cap] w fun e w' => CloneRes w ss e w' := by
  cases a with
  | none =>
    obtain ⟨rfl, rfl⟩ := hz rfl
    exact clone_nil w
  | some x => exact clone_some x cap ss w hm hc

set_option maxHeartbeats 2000000 in
theorem law3 (a1 a2 : Option Addr) (c1 c2 : Nat) (ss1 ss2 : List ByteArray) (w : World) (z1 : a1 = none → ss1 = [] ∧ c1 = 0) (z2 : a2 = none → ss2 = [] ∧ c2 = 0) (h1 : Src w a1 ss1) (h2 : Src w a2 ss2) (m1 : ss1.length ≤ maxLen) (m2 : ss2.length ≤ maxLen) :
    Calls Try.prog 3 #[.slice a1 ss1.length c1, .slice a2 ss2.length c2] w fun e w' => e = .returned (.bool true) ∧ Below w.heap.size w w' := by
  have H5 := bytes5 a1 a2 c1 c2 ss1 ss2 w h1 h2 m1 m2
  unfold maxLen at m1 m2
  go_enter Try.func3, Try.ntmps3
  go_wp2_with fail
  refine H5.mono ?_
  clear H5
  rintro e w' ⟨r, rfl, rfl, hr⟩
  cases r with
  | false =>
    go_wp2
    go_ret
    exact ⟨rfl, Below.refl _ _⟩
  | true =>
    have hm := hr rfl
    clear hr
    by_cases hb1 : 65536 < ss1.length
    · go_wp2
      go_ret
      exact ⟨rfl, Below.refl _ _⟩
    by_cases hb2 : 65536 < ss2.length
    · go_wp2
      go_ret
      exact ⟨rfl, Below.refl _ _⟩
    go_wp2_with fail
    refine (text6 a1 a2 c1 c2 ss1 ss2 w' h1 h2 hm).mono ?_
    rintro e w1 ⟨t, rfl, rfl⟩
    by_cases ht : 1048576 < t
    · go_wp2
      go_ret
      exact ⟨rfl, Below.refl _ _⟩
    go_wp2_with fail
    refine (clone7 a1 c1 ss1 w1 z1 (by omega) h1).mono ?_
    rintro e w2 ⟨d1, k1, rfl, s1, b1⟩
    have h2' := h2.later (Nat.le_refl _) b1
    clear h1 h2 z1
    go_wp2_with fail
    refine (clone7 a2 c2 ss2 w2 z2 (by omega) h2').mono ?_
    rintro e w3 ⟨d2, k2, rfl, s2, b2⟩
    have s1' := s1.later (Nat.le_refl _) b2
    have B3 : Below w1.heap.size w1 w3 := b1.trans (b2.mono b1.size)
    clear s1 h2' z2 b1 b2
    go_wp2_with fail
    refine (lay8 d1 d2 k1 k2 ss1 ss2 w3 s1' s2 hm).mono ?_
    rintro e w4 ⟨g1, g2, g3, rfl, hg1, hg2, hg3, hk, hse, hte, b4⟩
    have s1 := s1'.later (Nat.le_refl _) b4
    have B4 : Below w1.heap.size w1 w4 := B3.trans (b4.mono B3.size)
    clear s1' s2 b4 B3 hg1 hg2 hg3
    have hoff := offs_le ss1 ss2 ss1.length
    go_wp2_with fail
    refine (new9 g1 (offs ss1 ss2 ss1.length) ss1.length w4 (by omega)).mono ?_
    rintro e w5 ⟨gf, gc, rfl, hgf, hgc, hne, hF, hC, b5⟩
    have hC0 := hC (sE ss1 ss2) (tE ss1 ss2)
    clear hC
    go_wp2
    go_loopw [10] (fun i wr => ∃ k : Nat, k ≤ ss1.length ∧ i = .int .i64 k ∧ FileAt wr gf gc ss1.length g1 (offs ss1 ss2 ss1.length) ∧ Closes wr gc ss1.length (sE ss1 ss2) (tE ss1 ss2) k ∧ Below w4.heap.size w4 wr) (fun i _ => ss1.length - (intOf i).toNat)
    case atStart => exact ⟨0, Nat.zero_le _, rfl, hF, hC0, b5⟩
    case round =>
      clear hF hC0 b5
      obtain ⟨k, hkn, rfl, hF, hC, hB⟩ := hrel
      by_cases hlt : k < ss1.length
      · have hlt' : (k : Int) < (ss1.length : Int) := by omega
        have c1 : wr.cell? ⟨g2, k, none⟩ = some (.int .i32 (sE ss1 ss2 k : Int)) := ((hse.below hB hse.lt).cell k).trans (E_get _ _ _ hlt)
        have c2 : wr.cell? ⟨g3, k, none⟩ = some (.int .i32 (tE ss1 ss2 k : Int)) := ((hte.below hB hte.lt).cell k).trans (E_get _ _ _ hlt)
        have HS := set10 gf gc ss1.length g1 (offs ss1 ss2 ss1.length) k (sE ss1 ss2) (tE ss1 ss2) wr.drew hlt (by omega) hne hF hC
        have HR : Hid (FileAt wr gf gc ss1.length g1 (offs ss1 ss2 ss1.length) ∧ Below w4.heap.size w4 wr) := ⟨hF, hB⟩
        clear hF hC hB
        go_wp2
        go_region_with (go_at_call 10; refine HS.mono ?_; rintro e w6 ⟨rfl, hC6, ho⟩)
        all_goals
          have HQ : Hid (FileAt w6 gf gc ss1.length g1 (offs ss1 ss2 ss1.length) ∧ Closes w6 gc ss1.length (sE ss1 ss2) (tE ss1 ss2) (k + 1) ∧ Below w4.heap.size w4 w6) :=
            ⟨ho.arr (Ne.symm hne) HR.1, hC6, HR.2.drew.trans (ho.below hgc)⟩
          clear hC6 ho c1 c2 HS
          go_wp2
          go_roundw
          case rel => exact ⟨k + 1, by omega, by go_num, HQ.1, HQ.2.1, HQ.2.2⟩
          case measure => simp [intOf]; omega
      · have hke : k = ss1.length := by omega
        rw [hke] at hC
        clear hke
        go_wp2
        go_loopw [11] (fun i wr => ∃ k : Nat, k ≤ ss1.length ∧ i = .int .i64 k ∧ FileAt wr gf gc ss1.length g1 (offs ss1 ss2 ss1.length) ∧ Closes wr gc ss1.length (sE ss1 ss2) (tE ss1 ss2) ss1.length ∧ Below w4.heap.size w4 wr) (fun i _ => ss1.length - (intOf i).toNat)
        case atStart => exact ⟨0, Nat.zero_le _, rfl, hF, hC, hB⟩
        case round =>
          clear hF hC hB hlt hkn
          obtain ⟨m, hkn, rfl, hF, hC, hB⟩ := hrel
          by_cases hlt : m < ss1.length
          · have hlt' : (m : Int) < (ss1.length : Int) := by omega
            obtain ⟨b, off, rfl, hc⟩ := (s1.later (Nat.le_refl _) hB).at hlt
            obtain ⟨s, hs⟩ : ∃ s, s = ss1.getD m ByteArray.empty := ⟨_, rfl⟩
            rw [← hs] at hc
            have hle := sE_le ss1 ss2 m ss1.length hlt
            have hsz : s.size ≤ 1048576 := by have e3 := sy_len ss1 m; rw [← hs] at e3; unfold sE at hle; omega
            have hbs : BSrc wr (symA g1 (offs ss1 ss2 ss1.length) (offs ss1 ss2 m)) s := by
              have e3 := sy_len ss1 m
              rw [← hs] at e3
              refine bsrc_sym (hk.below hB hk.lt) (by unfold sE at hle; omega) fun j hj => ?_
              rw [pre_get ss1 ss2 ss1.length m j hlt (by omega)]
              exact sy_get ss1 m s hs j hj
            have H12 := fun q => symbol12 gf gc ss1.length g1 (offs ss1 ss2 ss1.length) m ss1.length (sE ss1 ss2) (tE ss1 ss2) (wr.drewN q) hlt hlt (by omega) (by omega) (by rw [st_offs]; unfold sE; omega) hle hF hC
            have elen : sE ss1 ss2 m - st (tE ss1 ss2) m = s.size := by rw [st_offs, hs, ← sy_len]; unfold sE; omega
            rw [elen, st_offs] at H12
            have H11 := fun q => same11 (symA g1 (offs ss1 ss2 ss1.length) (offs ss1 ss2 m)) (offs ss1 ss2 ss1.length - offs ss1 ss2 m) s (wr.drewN q) hsz hbs
            have HR : Hid (FileAt wr gf gc ss1.length g1 (offs ss1 ss2 ss1.length) ∧ Closes wr gc ss1.length (sE ss1 ss2) (tE ss1 ss2) ss1.length ∧ Below w4.heap.size w4 wr) := ⟨hF, hC, hB⟩
            clear hF hC hB hs hle hbs elen s1 hse hte hk
            go_wp2
            go_quiet (first | (go_at_call 12; exact Calls.quiet_of (H12 _)) | (go_at_call 11; exact Calls.quiet_of (H11 _)))
            go_wp2
            go_roundw
            case rel => exact ⟨m + 1, by omega, by go_num, HR.1, HR.2.1, bdrewN HR.2.2 _⟩
            case measure => simp [intOf]; omega
          · have HF : Hid (Below w1.heap.size w1 wr) := B4.trans (hB.mono B4.size)
            clear hF hC hB
            go_wp2
            go_ret
            exact ⟨rfl, HF.out⟩
end Go.Proofs.Qxb6604621a
