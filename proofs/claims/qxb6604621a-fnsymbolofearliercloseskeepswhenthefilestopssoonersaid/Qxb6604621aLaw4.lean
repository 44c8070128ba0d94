/-
  THE WALK OF FnSymbolOfEarlierClosesKeepsWhenTheFileStopsSooner (function 4).
-/
import Derived.Test.Qxb6604621aLaw3
import Derived.Deep.DeepCutAuto
namespace Go.Proofs.Qxb6604621a
open Go.RowKit Go.Deep
set_option linter.unusedVariables false

theorem Closes.below {w w' : World} {gc n k M : Nat} {SE TE : Nat → Nat} (h : Closes w gc n SE TE k) (hM : w.heap.size ≤ M) (hb : Below M w w') : Closes w' gc n SE TE k := by
  obtain ⟨cs, ha, r⟩ := h
  exact ⟨cs, ha.below hb (Nat.lt_of_lt_of_le ha.lt hM), r⟩
theorem Arr.later {e : TypeId} {w w' : World} {b M : Nat} {vs : List Value} (h : Arr e w b vs) (hM : w.heap.size ≤ M) (hb : Below M w w') : Arr e w' b vs :=
  h.below hb (Nat.lt_of_lt_of_le h.lt hM)

/-- The symbol's slice leads to the bytes of s, where those lie in the row Ls. -/
theorem bsrc_row {w : World} {gk m p : Nat} {Ls : List Value} {s : ByteArray} (ha : Arr 5 w gk Ls) (hp : p + s.size ≤ m) (hs : ∀ j, (h : j < s.size) → Ls[p + j]? = some (.int .u8 ((s[j]'h).toNat : Int))) : BSrc w (symA gk m p) s := by
  by_cases h0 : s.size = 0
  · exact .inl h0
  · refine .inr ⟨gk, p, if_neg (by omega), fun j hj => ?_⟩
    rw [ha.cell, hs j hj]
theorem offs_le_of (ss1 ss2 : List ByteArray) (k n : Nat) (h : k ≤ n) : offs ss1 ss2 k ≤ offs ss1 ss2 n := by
  have h1 := offs_mono ss1 ss2 k (n - k)
  rw [show k + (n - k) = n by omega] at h1
  exact h1

/-- The copy of kept while it is made: b cells are there; those ahead of F are as in K. -/
def CutUp (wr : World) (gx : Nat) (K : List Value) (F Z b : Nat) : Prop :=
  ∃ L : List Value, L.length = b ∧ (∀ j, j < b → j < F → L[j]? = K[j]?) ∧ Arr 5 wr gx (fill (.int .u8 0) L Z)
theorem B_at (K : List UInt8) (j : Nat) (h : j < K.length) : ∃ x : Int, (B K)[j]? = some (.int .u8 x) := by
  refine ⟨(K[j].toNat : Int), ?_⟩
  simp [B, h]
theorem CutUp.cell {wr : World} {gx F Z b : Nat} {K : List Value} (h : CutUp wr gx K F Z b) (hb : b < Z) : wr.cell? ⟨gx, b, none⟩ = some (.int .u8 0) ∧ wr.frozen? ⟨gx, b, none⟩ = false := by
  obtain ⟨L, rfl, _, ha⟩ := h
  exact ⟨(ha.cell _).trans (fill_at _ _ _ hb), ha.frozen _⟩
theorem CutUp.step {wr : World} {gx F Z b : Nat} {K : List Value} (h : CutUp wr gx K F Z b) (hb : b < Z) (v : Value) (hv : b < F → K[b]? = some v) : CutUp (wr.setCell ⟨gx, b, none⟩ v) gx K F Z (b + 1) := by
  obtain ⟨L, rfl, hL, ha⟩ := h
  refine ⟨L ++ [v], by simp, fun j hj hF => ?_, ?_⟩
  · by_cases hj' : j < L.length
    · rw [List.getElem?_append_left hj']; exact hL j hj' hF
    · have e : j = L.length := by omega
      subst e
      rw [hv hF]
      simp
  · have h1 := ha.setCell L.length v
    rw [fill_set _ _ _ _ hb] at h1
    exact h1

set_option maxRecDepth 100000 in
set_option maxHeartbeats 4000000 in
theorem law4 (a1 a2 : Option Addr) (c1 c2 : Nat) (ss1 ss2 : List ByteArray) (kk : Int) (w : World) (z1 : a1 = none → ss1 = [] ∧ c1 = 0) (z2 : a2 = none → ss2 = [] ∧ c2 = 0) (h1 : Src w a1 ss1) (h2 : Src w a2 ss2) (m1 : ss1.length ≤ maxLen) (m2 : ss2.length ≤ maxLen) (_wk : (Lit.int .i64 kk).wf = true) :
    Calls Try.prog 4 #[.slice a1 ss1.length c1, .slice a2 ss2.length c2, .int .i64 kk] w fun e w' => e = .returned (.bool true) ∧ Below w.heap.size w w' := by
  clear _wk
  have H5 := bytes13 a1 a2 c1 c2 ss1 ss2 kk w h1 h2 m1 m2
  unfold maxLen at m1 m2
  go_enter Try.func4, Try.ntmps4
  go_wp2_with fail
  refine H5.mono ?_
  clear H5
  rintro e w' ⟨r, rfl, rfl, hr⟩
  cases r with
  | false =>
    go_wp2
    go_ret
    exact ⟨rfl, Below.refl _ _⟩
  | true =>
    have hm := hr rfl
    clear hr
    by_cases hb1 : 65536 < ss1.length
    · go_wp2
      go_ret
      exact ⟨rfl, Below.refl _ _⟩
    by_cases hb2 : 65536 < ss2.length
    · go_wp2
      go_ret
      exact ⟨rfl, Below.refl _ _⟩
    go_wp2_with fail
    refine (text6 a1 a2 c1 c2 ss1 ss2 w' h1 h2 hm).mono ?_
    rintro e w1 ⟨t, rfl, rfl⟩
    by_cases ht : 1048576 < t
    · go_wp2
      go_ret
      exact ⟨rfl, Below.refl _ _⟩
    by_cases hk0 : kk < 0
    · go_wp2
      go_ret
      exact ⟨rfl, Below.refl _ _⟩
    by_cases hk1 : (ss1.length : Int) < kk
    · go_wp2
      go_ret
      exact ⟨rfl, Below.refl _ _⟩
    obtain ⟨kn, rfl⟩ : ∃ kn : Nat, kk = kn := ⟨kk.toNat, by omega⟩
    have hkn : kn ≤ ss1.length := by omega
    go_wp2_with fail
    refine (clone7 a1 c1 ss1 w1 z1 (by omega) h1).mono ?_
    rintro e w2 ⟨d1, k1, rfl, s1, b1⟩
    have h2' := h2.later (Nat.le_refl _) b1
    clear h1 h2 z1
    go_wp2_with fail
    refine (clone7 a2 c2 ss2 w2 z2 (by omega) h2').mono ?_
    rintro e w3 ⟨d2, k2, rfl, s2, b2⟩
    have s1' := s1.later (Nat.le_refl _) b2
    have B3 : Below w1.heap.size w1 w3 := b1.trans (b2.mono b1.size)
    clear s1 h2' z2 b1 b2
    go_wp2_with fail
    refine (lay8 d1 d2 k1 k2 ss1 ss2 w3 s1' s2 hm).mono ?_
    rintro e w4 ⟨g1, g2, g3, rfl, hg1, hg2, hg3, hk, hse, hte, b4⟩
    have s1 := s1'.later (Nat.le_refl _) b4
    have B4 : Below w1.heap.size w1 w4 := B3.trans (b4.mono B3.size)
    clear s1' s2 b4 B3 hg1 hg2 hg3
    have hoff := offs_le ss1 ss2 ss1.length
    obtain ⟨Z, hZ⟩ : ∃ Z, Z = offs ss1 ss2 ss1.length := ⟨_, rfl⟩
    rw [← hZ] at hoff
    have HZ : Hid (Z = offs ss1 ss2 ss1.length) := hZ
    have hZ2 : Z ≤ 1048576 := by omega
    rw [← hZ]
    clear hZ hoff
    go_wp2_with fail
    refine (new9 g1 Z ss1.length w4 (by omega)).mono ?_
    rintro e w5 ⟨gf, gc, rfl, hgf, hgc, hne, hF, hC, b5⟩
    have hC0 := hC (sE ss1 ss2) (tE ss1 ss2)
    clear hC
    go_wp2
    go_loopw [12] (fun i wr => ∃ k : Nat, k ≤ ss1.length ∧ i = .int .i64 k ∧ FileAt wr gf gc ss1.length g1 Z ∧ Closes wr gc ss1.length (sE ss1 ss2) (tE ss1 ss2) k ∧ Below w4.heap.size w4 wr) (fun i _ => ss1.length - (intOf i).toNat)
    case atStart => exact ⟨0, Nat.zero_le _, rfl, hF, hC0, b5⟩
    case round =>
      clear hF hC0 b5
      obtain ⟨k, hkl, rfl, hF, hC, hB⟩ := hrel
      by_cases hlt : k < ss1.length
      · have hlt' : (k : Int) < (ss1.length : Int) := by omega
        have c1 : wr.cell? ⟨g2, k, none⟩ = some (.int .i32 (sE ss1 ss2 k : Int)) := ((hse.below hB hse.lt).cell k).trans (E_get _ _ _ hlt)
        have c2 : wr.cell? ⟨g3, k, none⟩ = some (.int .i32 (tE ss1 ss2 k : Int)) := ((hte.below hB hte.lt).cell k).trans (E_get _ _ _ hlt)
        have HS := set10 gf gc ss1.length g1 Z k (sE ss1 ss2) (tE ss1 ss2) wr.drew hlt (by omega) hne hF hC
        have HR : Hid (FileAt wr gf gc ss1.length g1 Z ∧ Below w4.heap.size w4 wr) := ⟨hF, hB⟩
        clear hF hC hB
        go_wp2
        go_region_with (go_at_call 10; refine HS.mono ?_; rintro e w6 ⟨rfl, hC6, ho⟩)
        all_goals
          have HQ : Hid (FileAt w6 gf gc ss1.length g1 Z ∧ Closes w6 gc ss1.length (sE ss1 ss2) (tE ss1 ss2) (k + 1) ∧ Below w4.heap.size w4 w6) :=
            ⟨ho.arr (Ne.symm hne) HR.1, hC6, HR.2.drew.trans (ho.below hgc)⟩
          clear hC6 ho c1 c2 HS
          go_wp2
          go_roundw
          case rel => exact ⟨k + 1, by omega, by go_num, HQ.1, HQ.2.1, HQ.2.2⟩
          case measure => simp [intOf]; omega
      · have hke : k = ss1.length := by omega
        rw [hke] at hC
        clear hke
        obtain ⟨wA, rfl⟩ : ∃ wA : World, wA = wr := ⟨_, rfl⟩
        have hkA := hk.later (Nat.le_refl _) hB
        have hseA := hse.later (Nat.le_refl _) hB
        have hteA := hte.later (Nat.le_refl _) hB
        have s1A := s1.later (Nat.le_refl _) hB
        have BA : Below w1.heap.size w1 wA := B4.trans (hB.mono B4.size)
        clear hk hse hte s1 B4 hB hgf hgc
        go_upto_if 80 with (fail)
        go_cut [13] (fun x wc => ∃ F : Nat, Hid (F = offs ss1 ss2 kn) ∧ F ≤ 1048576 ∧ x = .int .i64 F ∧ wA = wc)
        case first =>
          by_cases hk0' : 0 < kn
          · obtain ⟨F, hF0⟩ : ∃ F, F = offs ss1 ss2 kn := ⟨_, rfl⟩
            have hF1 : F ≤ 1048576 := by
              have h3 := offs_le_of ss1 ss2 kn ss1.length hkn
              have := HZ.out
              omega
            have c3 : wA.cell? ⟨g3, kn - 1, none⟩ = some (.int .i32 (F : Int)) := by
              refine ((hteA.cell (kn - 1)).trans (E_get _ _ _ (by omega))).trans ?_
              rw [hF0, tE, show kn - 1 + 1 = kn by omega]
            have hj0 : 0 ≤ (kn : Int) - 1 := by omega
            have hj1 : (kn : Int) - 1 < (ss1.length : Int) := by omega
            have HF0 : Hid (F = offs ss1 ss2 kn) := hF0
            clear hF0
            go_wp2_with fail
            go_meet
            case rel => exact ⟨F, HF0, hF1, rfl, rfl⟩
          · have hkz : kn = 0 := by omega
            go_wp2_with fail
            go_meet
            case rel => exact ⟨0, by subst hkz; rfl, by omega, rfl, rfl⟩
        case rest =>
          obtain ⟨F, HF0, hF1, rfl, rfl⟩ := hcut
          have hmk := fun w => run_make_row' (P := Try.prog) 26 5 (.int .u8 0) 1 Try.underlying26 Try.info5 rfl .i64 .i64 Z (by omega) (by omega) w
          go_wp2
          clear hmk
          go_loopw [15] (fun i wr => ∃ b : Nat, b ≤ Z ∧ i = .int .i64 b ∧ CutUp wr wA.heap.size (B (pre ss1 ss2 ss1.length)) F Z b ∧ Below wA.heap.size wA wr) (fun i _ => Z - (intOf i).toNat)
          case atStart => exact ⟨0, Nat.zero_le _, rfl, ⟨[], rfl, fun j hj => absurd hj (by omega), made_arr _ _ _ _⟩, (Below.refl _ _).alloc (Nat.le_refl _) _⟩
          case round =>
            clear hlt hkl
            obtain ⟨b, hbl, rfl, hU, hB⟩ := hrel
            by_cases hlt : b < Z
            · have hlt' : (b : Int) < (Z : Int) := by omega
              obtain ⟨x, hx⟩ := B_at (pre ss1 ss2 ss1.length) b (by have := HZ.out; rw [pre_len]; omega)
              have c1 : wr.cell? ⟨g1, b, none⟩ = some (.int .u8 x) := ((hkA.later (Nat.le_refl _) hB).cell b).trans hx
              obtain ⟨c2, f2⟩ := hU.cell hlt
              have HU : Hid (∀ v, (b < F → v = .int .u8 x) → CutUp (wr.setCell ⟨wA.heap.size, b, none⟩ v) wA.heap.size (B (pre ss1 ss2 ss1.length)) F Z (b + 1) ∧ Below wA.heap.size wA (wr.setCell ⟨wA.heap.size, b, none⟩ v)) :=
                fun v hv => ⟨hU.step hlt v (fun h => by rw [hv h]; exact hx), hB.setCell (Nat.le_refl _) v⟩
              clear hx hU hB
              by_cases hFb : F ≤ b
              · have hFb' : (F : Int) ≤ (b : Int) := by omega
                go_wp2
                go_roundw
                case rel => exact ⟨b + 1, by omega, by go_num, (HU.out _ (fun h => absurd h (by omega))).1, (HU.out _ (fun h => absurd h (by omega))).2⟩
                case measure => simp [intOf]; omega
              · have hFb' : (b : Int) < (F : Int) := by omega
                go_wp2
                go_roundw
                case rel => exact ⟨b + 1, by omega, by go_num, (HU.out _ (fun _ => rfl)).1, (HU.out _ (fun _ => rfl)).2⟩
                case measure => simp [intOf]; omega
            · have hbe : b = Z := by omega
              obtain ⟨wB, rfl⟩ : ∃ wB : World, wB = wr := ⟨_, rfl⟩
              have hkB := hkA.later (Nat.le_refl _) hB
              have hseB := hseA.later (Nat.le_refl _) hB
              have hteB := hteA.later (Nat.le_refl _) hB
              have s1B := s1A.later (Nat.le_refl _) hB
              have hFB : FileAt wB gf gc ss1.length g1 Z := Arr.later hF (Nat.le_refl _) hB
              have hCB := hC.below (Nat.le_refl _) hB
              have BB : Below w1.heap.size w1 wB := BA.trans (hB.mono BA.size)
              obtain ⟨L, hL1, hL2, hL3⟩ := hU
              rw [hbe] at hL1 hL2
              rw [fill_full _ _ _ hL1] at hL3
              clear hkA hseA hteA s1A hF hC BA hB hbe
              go_wp2_with fail
              refine (new9 wA.heap.size Z kn wB (by omega)).mono ?_
              rintro e w7 ⟨gf2, gc2, rfl, hgf2, hgc2, hne2, hF2, hC2, b7⟩
              have hC20 := hC2 (sE ss1 ss2) (tE ss1 ss2)
              clear hC2 hlt hbl
              go_wp2
              go_loopw [17] (fun i wr => ∃ c : Nat, c ≤ kn ∧ i = .int .i64 c ∧ FileAt wr gf2 gc2 kn wA.heap.size Z ∧ Closes wr gc2 kn (sE ss1 ss2) (tE ss1 ss2) c ∧ Below wB.heap.size wB wr) (fun i _ => kn - (intOf i).toNat)
              case atStart => exact ⟨0, Nat.zero_le _, rfl, hF2, hC20, b7⟩
              case round =>
                clear hF2 hC20 b7
                obtain ⟨c, hcl, rfl, hF, hC, hB⟩ := hrel
                by_cases hlt : c < kn
                · have hlt' : (c : Int) < (kn : Int) := by omega
                  have hlt2 : (c : Int) < (ss1.length : Int) := by omega
                  have c1 : wr.cell? ⟨g2, c, none⟩ = some (.int .i32 (sE ss1 ss2 c : Int)) := ((hseB.later (Nat.le_refl _) hB).cell c).trans (E_get _ _ _ (by omega))
                  have c2 : wr.cell? ⟨g3, c, none⟩ = some (.int .i32 (tE ss1 ss2 c : Int)) := ((hteB.later (Nat.le_refl _) hB).cell c).trans (E_get _ _ _ (by omega))
                  have HS := set10 gf2 gc2 kn wA.heap.size Z c (sE ss1 ss2) (tE ss1 ss2) wr.drew hlt (by omega) hne2 hF hC
                  have HR : Hid (FileAt wr gf2 gc2 kn wA.heap.size Z ∧ Below wB.heap.size wB wr) := ⟨hF, hB⟩
                  clear hF hC hB
                  go_wp2
                  go_region_with (go_at_call 10; refine HS.mono ?_; rintro e w8 ⟨rfl, hC8, ho⟩)
                  all_goals
                    have HQ : Hid (FileAt w8 gf2 gc2 kn wA.heap.size Z ∧ Closes w8 gc2 kn (sE ss1 ss2) (tE ss1 ss2) (c + 1) ∧ Below wB.heap.size wB w8) :=
                      ⟨ho.arr (Ne.symm hne2) HR.1, hC8, HR.2.drew.trans (ho.below hgc2)⟩
                    clear hC8 ho c1 c2 HS
                    go_wp2
                    go_roundw
                    case rel => exact ⟨c + 1, by omega, by go_num, HQ.1, HQ.2.1, HQ.2.2⟩
                    case measure => simp [intOf]; omega
                · have hce : c = kn := by omega
                  rw [hce] at hC
                  clear hce
                  go_wp2
                  go_loopw [18] (fun i wr => ∃ c : Nat, c ≤ kn ∧ i = .int .i64 c ∧ FileAt wr gf2 gc2 kn wA.heap.size Z ∧ Closes wr gc2 kn (sE ss1 ss2) (tE ss1 ss2) kn ∧ Below wB.heap.size wB wr) (fun i _ => kn - (intOf i).toNat)
                  case atStart => exact ⟨0, Nat.zero_le _, rfl, hF, hC, hB⟩
                  case round =>
                    clear hF hC hB hlt hcl
                    obtain ⟨m, hml, rfl, hF, hC, hB⟩ := hrel
                    by_cases hlt : m < kn
                    · have hlt' : (m : Int) < (kn : Int) := by omega
                      have hlt2 : (m : Int) < (ss1.length : Int) := by omega
                      have hmn : m < ss1.length := by omega
                      obtain ⟨b, off, rfl, hc⟩ := (s1B.later (Nat.le_refl _) hB).at hmn
                      obtain ⟨s, hs⟩ : ∃ s, s = ss1.getD m ByteArray.empty := ⟨_, rfl⟩
                      rw [← hs] at hc
                      have e3 : (sy ss1 m).length = s.size := by rw [hs]; exact sy_len ss1 m
                      have hle0 := sE_le ss1 ss2 m ss1.length hmn
                      have hle1 := sE_le ss1 ss2 m kn hlt
                      have hle : sE ss1 ss2 m ≤ Z := by have := HZ.out; omega
                      have hleF : sE ss1 ss2 m ≤ F := by have := HF0.out; omega
                      have hsE : sE ss1 ss2 m = offs ss1 ss2 m + s.size := by rw [← e3]; rfl
                      have hsz : s.size ≤ 1048576 := by omega
                      have elen : sE ss1 ss2 m - st (tE ss1 ss2) m = s.size := by rw [st_offs]; omega
                      have hat : ∀ j, (h : j < s.size) → (B (pre ss1 ss2 ss1.length))[offs ss1 ss2 m + j]? = some (.int .u8 ((s[j]'h).toNat : Int)) := fun j hj => by
                        rw [B, List.getElem?_map, pre_get ss1 ss2 ss1.length m j hmn (by omega), sy_get ss1 m s hs j hj]
                        rfl
                      have hbsA : BSrc wr (symA g1 Z (offs ss1 ss2 m)) s := bsrc_row (hkB.later (Nat.le_refl _) hB) (by omega) hat
                      have hbsB : BSrc wr (symA wA.heap.size Z (offs ss1 ss2 m)) s := bsrc_row (hL3.later (Nat.le_refl _) hB) (by omega) fun j hj => by
                        rw [hL2 _ (by omega) (by omega)]
                        exact hat j hj
                      have hst : st (tE ss1 ss2) m ≤ sE ss1 ss2 m := by rw [st_offs]; omega
                      have H12a := symbol12 gf gc ss1.length g1 Z m ss1.length (sE ss1 ss2) (tE ss1 ss2) wr hmn hmn (by omega) (by omega) hst hle (Arr.later hFB (Nat.le_refl _) hB) (hCB.below (Nat.le_refl _) hB)
                      have H12b := fun q => symbol12 gf2 gc2 kn wA.heap.size Z m kn (sE ss1 ss2) (tE ss1 ss2) (wr.drewN q) hlt hlt (by omega) (by omega) hst hle hF hC
                      rw [elen, st_offs] at H12a H12b
                      have H11a := fun q => same11 (symA g1 Z (offs ss1 ss2 m)) (Z - offs ss1 ss2 m) s (wr.drewN q) hsz hbsA
                      have H11b := fun q => same11 (symA wA.heap.size Z (offs ss1 ss2 m)) (Z - offs ss1 ss2 m) s (wr.drewN q) hsz hbsB
                      have HR : Hid (FileAt wr gf2 gc2 kn wA.heap.size Z ∧ Closes wr gc2 kn (sE ss1 ss2) (tE ss1 ss2) kn ∧ Below wB.heap.size wB wr) := ⟨hF, hC, hB⟩
                      clear hF hC hB hs hle hle0 hle1 hleF hsE hbsA hbsB hat elen hst e3 s1B hseB hteB hkB hFB hCB hL1 hL2 hL3
                      go_wp2_with fail
                      refine H12a.mono ?_
                      rintro e wa ⟨rfl, q1, rfl⟩
                      clear H12a
                      go_wp2_with fail
                      refine (H12b _).mono ?_
                      rintro e wb ⟨rfl, q2, rfl⟩
                      clear H12b
                      go_wp2_with fail
                      refine (H11a _).mono ?_
                      rintro e wc ⟨rfl, q3, rfl⟩
                      clear H11a
                      go_wp2_with fail
                      refine (H11b _).mono ?_
                      rintro e wd ⟨rfl, q4, rfl⟩
                      clear H11b
                      go_wp2
                      go_roundw
                      case rel => exact ⟨m + 1, by omega, by go_num, HR.1, HR.2.1, bdrewN HR.2.2 _⟩
                      case measure => simp [intOf]; omega
                    · have HF : Hid (Below w1.heap.size w1 wr) := BB.trans (hB.mono BB.size)
                      clear hF hC hB
                      go_wp2
                      go_ret
                      exact ⟨rfl, HF.out⟩
end Go.Proofs.Qxb6604621a
