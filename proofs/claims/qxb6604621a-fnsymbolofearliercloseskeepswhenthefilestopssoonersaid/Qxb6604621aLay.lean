/-
  THE WALK OF zzPB1LayKept (function 8).
-/
import Derived.Test.Qxb6604621aFile
namespace Go.Proofs.Qxb6604621a
open Go.RowKit Go.Deep

/-! ### The layout, plainly -/
def sy (ss : List ByteArray) (k : Nat) : List UInt8 := (ss.getD k ByteArray.empty).data.toList
/-- What is kept of the first k closes. -/
def pre (ss1 ss2 : List ByteArray) : Nat → List UInt8
  | 0 => []
  | k + 1 => pre ss1 ss2 k ++ sy ss1 k ++ sy ss2 k
def offs (ss1 ss2 : List ByteArray) (k : Nat) : Nat := (pre ss1 ss2 k).length
def sE (ss1 ss2 : List ByteArray) (k : Nat) : Nat := offs ss1 ss2 k + (sy ss1 k).length
def tE (ss1 ss2 : List ByteArray) (k : Nat) : Nat := offs ss1 ss2 (k + 1)

theorem sy_len (ss : List ByteArray) (k : Nat) : (sy ss k).length = (ss.getD k ByteArray.empty).size := by
  unfold sy
  exact Array.length_toList
theorem ba_len (s : ByteArray) : s.data.toList.length = s.size := Array.length_toList
theorem tot_take_succ_any (ss : List ByteArray) (k : Nat) : tot (ss.take (k + 1)) = tot (ss.take k) + (ss.getD k ByteArray.empty).size := by
  by_cases h : k < ss.length
  · exact tot_take_succ ss k h
  · have e : ss.getD k ByteArray.empty = ByteArray.empty := by simp [List.getD, h]
    rw [List.take_of_length_le (by omega), List.take_of_length_le (by omega), e]
    rfl
theorem offs_succ (ss1 ss2 : List ByteArray) (k : Nat) : offs ss1 ss2 (k + 1) = offs ss1 ss2 k + ((ss1.getD k ByteArray.empty).size + (ss2.getD k ByteArray.empty).size) := by
  simp [offs, pre, sy_len]
theorem offs_tot (ss1 ss2 : List ByteArray) (k : Nat) : offs ss1 ss2 k = tot (ss1.take k) + tot (ss2.take k) := by
  induction k with
  | zero => simp [offs, pre, tot]
  | succ k ih => rw [offs_succ, ih, tot_take_succ_any, tot_take_succ_any]; omega
theorem offs_le (ss1 ss2 : List ByteArray) (k : Nat) : offs ss1 ss2 k ≤ tot ss1 + tot ss2 := by
  rw [offs_tot]; have := tot_take_le ss1 k; have := tot_take_le ss2 k; omega
theorem offs_mono (ss1 ss2 : List ByteArray) (k d : Nat) : offs ss1 ss2 k ≤ offs ss1 ss2 (k + d) := by
  induction d with
  | zero => exact Nat.le_refl _
  | succ d ih => rw [← Nat.add_assoc, offs_succ]; omega

def E (F : Nat → Nat) (k : Nat) : List Value := (List.range k).map fun i => .int .i32 (F i : Int)
theorem E_len (F : Nat → Nat) (k : Nat) : (E F k).length = k := by simp [E]
theorem E_succ (F : Nat → Nat) (k : Nat) : E F (k + 1) = E F k ++ [.int .i32 (F k : Int)] := by simp [E, List.range_succ]
theorem E_get (F : Nat → Nat) (k j : Nat) (h : j < k) : (E F k)[j]? = some (.int .i32 (F j : Int)) := by simp [E, h]
theorem B_append (x y : List UInt8) : B (x ++ y) = B x ++ B y := by simp [B]
theorem B_len (x : List UInt8) : (B x).length = x.length := by simp [B]
theorem take_snoc (s : ByteArray) (k : Nat) (h : k < s.size) : s.data.toList.take (k + 1) = s.data.toList.take k ++ [s[k]] := by
  rw [List.take_succ_eq_append_getElem (by simpa using h)]; rfl

def LayRes (w : World) (ss1 ss2 : List ByteArray) (e : Ending) (w' : World) : Prop :=
  ∃ g1 g2 g3, e = .returned (.tuple #[.slice (some ⟨g1, 0, none⟩) (offs ss1 ss2 ss1.length) (offs ss1 ss2 ss1.length), .slice (some ⟨g2, 0, none⟩) ss1.length ss1.length, .slice (some ⟨g3, 0, none⟩) ss1.length ss1.length]) ∧
    w.heap.size ≤ g1 ∧ w.heap.size ≤ g2 ∧ w.heap.size ≤ g3 ∧ Arr 5 w' g1 (B (pre ss1 ss2 ss1.length)) ∧ Arr 21 w' g2 (E (sE ss1 ss2) ss1.length) ∧ Arr 21 w' g3 (E (tE ss1 ss2) ss1.length) ∧ Below w.heap.size w w'

/-- The three rows while they are filled: P is kept so far; k1 symbols' ends and k2 texts' ends are laid. -/
structure Inv (ss1 ss2 : List ByteArray) (wb wr : World) (P : List UInt8) (Z k1 k2 : Nat) : Prop where
  kept : Arr 5 wr wb.heap.size (fill (.int .u8 0) (B P) Z)
  syms : Arr 21 wr (wb.heap.size + 1) (fill (.int .i32 0) (E (sE ss1 ss2) k1) ss1.length)
  texts : Arr 21 wr (wb.heap.size + 1 + 1) (fill (.int .i32 0) (E (tE ss1 ss2) k2) ss1.length)
  below : Below wb.heap.size wb wr

theorem Inv.start (ss1 ss2 : List ByteArray) (wb : World) (Z : Nat) : Inv ss1 ss2 wb (((wb.alloc (.cells (madeCells #[.int .u8 0] Z) 5)).alloc (.cells (madeCells #[.int .i32 0] ss1.length) 21)).alloc (.cells (madeCells #[.int .i32 0] ss1.length) 21)) [] Z 0 0 := by
  refine ⟨((made_arr 5 _ wb Z).alloc _).alloc _, ?_, ?_, (((Below.refl _ _).alloc (Nat.le_refl _) _).alloc (by simp) _).alloc (by simp; omega) _⟩
  · have h := (made_arr 21 (.int .i32 0) (wb.alloc (.cells (madeCells #[.int .u8 0] Z) 5)) ss1.length).alloc (.cells (madeCells #[.int .i32 0] ss1.length) 21)
    simpa [E] using h
  · have h := made_arr 21 (.int .i32 0) ((wb.alloc (.cells (madeCells #[.int .u8 0] Z) 5)).alloc (.cells (madeCells #[.int .i32 0] ss1.length) 21)) ss1.length
    simpa [E] using h

variable {ss1 ss2 : List ByteArray} {wb wr : World} {P : List UInt8} {Z k1 k2 : Nat}
theorem Inv.byte (h : Inv ss1 ss2 wb wr P Z k1 k2) (c : UInt8) {C : Nat} (hC : P.length = C) (hz : C < Z) : Inv ss1 ss2 wb (wr.setCell ⟨wb.heap.size, C, none⟩ (.int .u8 (c.toNat : Int))) (P ++ [c]) Z k1 k2 := by
  subst hC
  refine ⟨?_, h.syms.setOther _ (by simp) _, h.texts.setOther _ (by simp; omega) _, h.below.setCell (Nat.le_refl _) _⟩
  have h1 := h.kept.setCell P.length (.int .u8 (c.toNat : Int))
  have h2 := fill_set (.int .u8 0) (.int .u8 (c.toNat : Int)) (B P) Z (by rw [B_len]; exact hz)
  rw [B_len] at h2
  rw [h2] at h1
  rw [B_append]
  exact h1
theorem Inv.keptCell (h : Inv ss1 ss2 wb wr P Z k1 k2) {C : Nat} (hC : P.length = C) (hz : C < Z) : wr.cell? ⟨wb.heap.size, C, none⟩ = some (.int .u8 0) := by
  subst hC
  have h2 := fill_at (.int .u8 0) (B P) Z (by rw [B_len]; exact hz)
  rw [B_len] at h2
  exact (h.kept.cell _).trans h2
theorem Inv.symCell (h : Inv ss1 ss2 wb wr P Z k1 k2) (hk : k1 < ss1.length) : wr.cell? ⟨wb.heap.size + 1, k1, none⟩ = some (.int .i32 0) := by
  have h2 := fill_at (.int .i32 0) (E (sE ss1 ss2) k1) ss1.length (by rw [E_len]; exact hk)
  rw [E_len] at h2
  exact (h.syms.cell _).trans h2
theorem Inv.textCell (h : Inv ss1 ss2 wb wr P Z k1 k2) (hk : k2 < ss1.length) : wr.cell? ⟨wb.heap.size + 1 + 1, k2, none⟩ = some (.int .i32 0) := by
  have h2 := fill_at (.int .i32 0) (E (tE ss1 ss2) k2) ss1.length (by rw [E_len]; exact hk)
  rw [E_len] at h2
  exact (h.texts.cell _).trans h2
theorem Inv.symEnd (h : Inv ss1 ss2 wb wr P Z k1 k2) (hk : k1 < ss1.length) {C : Nat} (hC : C = sE ss1 ss2 k1) : Inv ss1 ss2 wb (wr.setCell ⟨wb.heap.size + 1, k1, none⟩ (.int .i32 (C : Int))) P Z (k1 + 1) k2 := by
  subst hC
  refine ⟨h.kept.setOther _ (by simp) _, ?_, h.texts.setOther _ (by simp) _, h.below.setCell (by simp) _⟩
  have h1 := h.syms.setCell k1 (.int .i32 (sE ss1 ss2 k1 : Int))
  have h2 := fill_set (.int .i32 0) (.int .i32 (sE ss1 ss2 k1 : Int)) (E (sE ss1 ss2) k1) ss1.length (by rw [E_len]; exact hk)
  rw [E_len] at h2
  rw [h2, ← E_succ] at h1
  exact h1
theorem Inv.textEnd (h : Inv ss1 ss2 wb wr P Z k1 k2) (hk : k2 < ss1.length) {C : Nat} (hC : C = tE ss1 ss2 k2) : Inv ss1 ss2 wb (wr.setCell ⟨wb.heap.size + 1 + 1, k2, none⟩ (.int .i32 (C : Int))) P Z k1 (k2 + 1) := by
  subst hC
  refine ⟨h.kept.setOther _ (by simp; omega) _, h.syms.setOther _ (by simp) _, ?_, h.below.setCell (by simp; omega) _⟩
  have h1 := h.texts.setCell k2 (.int .i32 (tE ss1 ss2 k2 : Int))
  have h2 := fill_set (.int .i32 0) (.int .i32 (tE ss1 ss2 k2 : Int)) (E (tE ss1 ss2) k2) ss1.length (by rw [E_len]; exact hk)
  rw [E_len] at h2
  rw [h2, ← E_succ] at h1
  exact h1

theorem pre_len (ss1 ss2 : List ByteArray) (k : Nat) : (pre ss1 ss2 k).length = offs ss1 ss2 k := rfl

set_option maxHeartbeats 2000000 in
theorem lay8 (a1 a2 : Option Addr) (c1 c2 : Nat) (ss1 ss2 : List ByteArray) (w : World) (h1 : Src w a1 ss1) (h2 : Src w a2 ss2) (hm : ss1.length + tot ss1 + ss2.length + tot ss2 ≤ 1048576) :
    Calls Try.prog 8 #[.slice a1 ss1.length c1, .slice a2 ss2.length c2, .int .i64 ss1.length] w fun e w' => LayRes w ss1 ss2 e w' := by
  go_enter Try.func8, Try.ntmps8
  go_wp2
  go_loopw [9, 10] (fun z i wr => ∃ k Z : Nat, k ≤ ss1.length ∧ Hid (Z = offs ss1 ss2 k) ∧ Z ≤ 1048576 ∧ i = .int .i64 k ∧ z = .int .i64 Z ∧ Src wr a1 ss1 ∧ Src wr a2 ss2 ∧ Below w.heap.size w wr) (fun _ i _ => ss1.length - (intOf i).toNat)
  case atStart => exact ⟨0, 0, Nat.zero_le _, rfl, by omega, rfl, rfl, h1, h2, Below.refl _ _⟩
  case round =>
    clear h1 h2
    obtain ⟨k, Z, hk, hZ, hZ2, rfl, rfl, h1, h2, hB⟩ := hrel
    by_cases hlt : k < ss1.length
    · have HR : Hid (Src wr a1 ss1 ∧ Src wr a2 ss2 ∧ Below w.heap.size w wr) := ⟨h1, h2, hB⟩
      obtain ⟨b, off, rfl, hc⟩ := h1.at hlt
      have ht := offs_succ ss1 ss2 k
      have hle := offs_le ss1 ss2 (k + 1)
      have HX := fun n => textAt a2 c2 k ss2 (wr.drewN n) h2
      obtain ⟨s, hs⟩ : ∃ s, s = ss1.getD k ByteArray.empty := ⟨_, rfl⟩
      obtain ⟨t, hte⟩ : ∃ t, t = ss2.getD k ByteArray.empty := ⟨_, rfl⟩
      rw [← hs] at hc ht
      rw [← hte] at HX ht
      have hlt' : (k : Int) < (ss1.length : Int) := by omega
      have HT : Hid (Z + (s.size + t.size) = offs ss1 ss2 (k + 1) ∧ Z + (s.size + t.size) ≤ 1048576) := by have := hZ.out; exact ⟨by omega, by omega⟩
      have hw1 : IntKind.i64.wrap ((s.size : Int) + (t.size : Int)) = (s.size : Int) + (t.size : Int) := by have := HT.2; rw [IntKind.wrap_i64]; omega
      have hw2 : IntKind.i64.wrap ((Z : Int) + ((s.size : Int) + (t.size : Int))) = (Z : Int) + ((s.size : Int) + (t.size : Int)) := by have := HT.2; rw [IntKind.wrap_i64]; omega
      clear ht hs hte hle h1 h2 hB
      go_wp2
      go_quiet ((go_at_call 14; exact Calls.quiet_of_same (HX _)))
      go_wp2
      go_roundw
      case rel => exact ⟨k + 1, Z + (s.size + t.size), by omega, HT.1, HT.2, by go_num, by go_num, HR.1, HR.2.1, bdrewN HR.2.2 _⟩
      case measure => simp [intOf]; omega
    · have hke : k = ss1.length := by omega
      have HZ : Hid (Z = offs ss1 ss2 ss1.length) := by have := hZ.out; rw [hke] at this; exact this
      clear hZ hke
      have hmk5 := fun w => run_make_row' (P := Try.prog) 26 5 (.int .u8 0) 1 Try.underlying26 Try.info5 rfl .i64 .i64 Z (by omega) (by omega) w
      have hmk21 := fun w => run_make_row' (P := Try.prog) 27 21 (.int .i32 0) 4 Try.underlying27 Try.info21 rfl .i64 .i64 ss1.length (by omega) (by omega) w
      obtain ⟨wb, rfl⟩ : ∃ wb : World, wb = wr := ⟨_, rfl⟩
      go_wp2
      clear hmk5 hmk21
      go_loopw [14, 15] (fun a i wr => ∃ k A : Nat, k ≤ ss1.length ∧ Hid (A = offs ss1 ss2 k) ∧ A ≤ 1048576 ∧ i = .int .i64 k ∧ a = .int .i64 A ∧ Inv ss1 ss2 wb wr (pre ss1 ss2 k) Z k k) (fun _ i _ => ss1.length - (intOf i).toNat)
      case atStart => exact ⟨0, 0, Nat.zero_le _, rfl, by omega, rfl, rfl, Inv.start ss1 ss2 wb Z⟩
      case round =>
        clear hlt hk
        obtain ⟨m, A, hk, hA, hA2, rfl, rfl, hI⟩ := hrel
        by_cases hlt : m < ss1.length
        · have h1' := h1.later (Nat.le_refl _) hI.below
          obtain ⟨b, off, rfl, hc⟩ := h1'.at hlt
          have ht := offs_succ ss1 ss2 m
          have hle : offs ss1 ss2 (m + 1) ≤ Z := by
            have := offs_mono ss1 ss2 (m + 1) (ss1.length - (m + 1))
            rw [show m + 1 + (ss1.length - (m + 1)) = ss1.length by omega] at this
            have := HZ.out
            omega
          obtain ⟨s, hs⟩ : ∃ s, s = ss1.getD m ByteArray.empty := ⟨_, rfl⟩
          obtain ⟨t, hte⟩ : ∃ t, t = ss2.getD m ByteArray.empty := ⟨_, rfl⟩
          rw [← hs] at hc
          rw [← hs, ← hte] at ht
          have hlt' : (m : Int) < (ss1.length : Int) := by omega
          have HT : Hid (A + (s.size + t.size) = offs ss1 ss2 (m + 1)) := by have := hA.out; unfold Hid; omega
          have hAZ : A + (s.size + t.size) ≤ Z := by have := HT.out; omega
          have HS : Hid (s = ss1.getD m ByteArray.empty) := hs
          have HE : Hid (t = ss2.getD m ByteArray.empty) := hte
          have HI : Hid (Inv ss1 ss2 wb wr (pre ss1 ss2 m) Z m m) := hI
          clear ht hs hte hle h1' hI
          go_wp2
          go_loopw [14, 17] (fun a j wr => ∃ p C : Nat, p ≤ s.size ∧ Hid (C = A + p) ∧ C ≤ 1048576 ∧ j = .int .i64 p ∧ a = .int .i64 C ∧ Hid (Inv ss1 ss2 wb wr (pre ss1 ss2 m ++ s.data.toList.take p) Z m m)) (fun _ j _ => s.size - (intOf j).toNat)
          case atStart => exact ⟨0, A, Nat.zero_le _, rfl, by omega, rfl, rfl, by simpa using HI⟩
          case round =>
            clear HI hc
            obtain ⟨p, C, hp, hC, hC2, rfl, rfl, HI⟩ := hrel
            by_cases hpl : p < s.size
            · have hpl' : (p : Int) < (s.size : Int) := by omega
              have hCZ : C < Z := by have := hC.out; omega
              have hCZ' : (C : Int) < (Z : Int) := by omega
              have hL : (pre ss1 ss2 m ++ s.data.toList.take p).length = C := by
                have := hC.out; have := hA.out; have e2 : (s.data.toList.take p).length = p := by rw [List.length_take, ba_len, Nat.min_eq_left hp]
                rw [List.length_append, pre_len, e2]; omega
              have c1 := HI.out.keptCell hL hCZ
              have f1 := HI.out.kept.frozen C
              have R := HI.out.byte s[p] hL hCZ
              rw [List.append_assoc, ← take_snoc s p hpl] at R
              have HR : Hid (Inv ss1 ss2 wb (wr.setCell ⟨wb.heap.size, C, none⟩ (.int .u8 (s[p].toNat : Int))) (pre ss1 ss2 m ++ s.data.toList.take (p + 1)) Z m m) := R
              clear R hL HI
              go_wp2
              go_roundw
              case rel => exact ⟨p + 1, C + 1, by omega, by have := hC.out; unfold Hid; omega, by omega, by go_num, by go_num, HR⟩
              case measure => simp [intOf]; omega
            · have hpe : p = s.size := by omega
              rw [hpe, List.take_of_length_le (by rw [ba_len]; exact Nat.le_refl _)] at HI
              have HC : Hid (C = A + s.size) := by have := hC.out; rw [hpe] at this; exact this
              have hCs : C = sE ss1 ss2 m := by
                have := HC.out; have := hA.out; have := HS.out; have e3 := sy_len ss1 m; rw [← HS.out] at e3; unfold sE; omega
              have hw32 : IntKind.i32.wrap (C : Int) = (C : Int) := by rw [IntKind.wrap_i32]; omega
              have c1 := HI.out.symCell hlt
              have f1 := HI.out.syms.frozen m
              have R := HI.out.symEnd hlt hCs
              have HX := textAt a2 c2 m ss2 _ (h2.later (Nat.le_refl _) R.below)
              rw [← HE.out] at HX
              have HR : Hid (Inv ss1 ss2 wb (wr.setCell ⟨wb.heap.size + 1, m, none⟩ (.int .i32 (C : Int))) (pre ss1 ss2 m ++ s.data.toList) Z (m + 1) m) := R
              clear R HI hCs hC hpe
              go_wp2_with fail
              refine HX.mono ?_
              rintro e w5 ⟨rfl, rfl⟩
              clear HX c1 f1 hw32 hp hpl
              go_wp2
              go_loopw [14, 19] (fun a j wr => ∃ r D : Nat, r ≤ t.size ∧ Hid (D = C + r) ∧ D ≤ 1048576 ∧ j = .int .i64 r ∧ a = .int .i64 D ∧ Hid (Inv ss1 ss2 wb wr (pre ss1 ss2 m ++ s.data.toList ++ t.data.toList.take r) Z (m + 1) m)) (fun _ j _ => t.size - (intOf j).toNat)
              case atStart => exact ⟨0, C, Nat.zero_le _, rfl, by omega, rfl, rfl, by simpa using HR⟩
              case round =>
                clear HR
                obtain ⟨r, D, hr, hD, hD2, rfl, rfl, HI⟩ := hrel
                by_cases hrl : r < t.size
                · have hrl' : (r : Int) < (t.size : Int) := by omega
                  have hDZ : D < Z := by have := hD.out; have := HC.out; omega
                  have hDZ' : (D : Int) < (Z : Int) := by omega
                  have hL : (pre ss1 ss2 m ++ s.data.toList ++ t.data.toList.take r).length = D := by
                    have := hD.out; have := HC.out; have := hA.out
                    have e2 : (t.data.toList.take r).length = r := by rw [List.length_take, ba_len, Nat.min_eq_left hr]
                    rw [List.length_append, List.length_append, pre_len, e2, ba_len]; omega
                  have c1 := HI.out.keptCell hL hDZ
                  have f1 := HI.out.kept.frozen D
                  have R := HI.out.byte t[r] hL hDZ
                  rw [List.append_assoc, ← take_snoc t r hrl] at R
                  have HR : Hid (Inv ss1 ss2 wb (wr.setCell ⟨wb.heap.size, D, none⟩ (.int .u8 (t[r].toNat : Int))) (pre ss1 ss2 m ++ s.data.toList ++ t.data.toList.take (r + 1)) Z (m + 1) m) := R
                  clear R hL HI
                  go_wp2
                  go_roundw
                  case rel => exact ⟨r + 1, D + 1, by omega, by have := hD.out; unfold Hid; omega, by omega, by go_num, by go_num, HR⟩
                  case measure => simp [intOf]; omega
                · have hre : r = t.size := by omega
                  rw [hre, List.take_of_length_le (by rw [ba_len]; exact Nat.le_refl _)] at HI
                  have HD : Hid (D = offs ss1 ss2 (m + 1)) := by have h3 := hD.out; rw [hre] at h3; have := HC.out; have := HT.out; unfold Hid; omega
                  have hDt : D = tE ss1 ss2 m := HD.out
                  have hw32 : IntKind.i32.wrap (D : Int) = (D : Int) := by rw [IntKind.wrap_i32]; omega
                  have c1 := HI.out.textCell hlt
                  have f1 := HI.out.texts.frozen m
                  have R := HI.out.textEnd hlt hDt
                  have HP : pre ss1 ss2 m ++ s.data.toList ++ t.data.toList = pre ss1 ss2 (m + 1) := by rw [HS.out, HE.out]; rfl
                  rw [HP] at R
                  have HR : Hid (Inv ss1 ss2 wb (wr.setCell ⟨wb.heap.size + 1 + 1, m, none⟩ (.int .i32 (D : Int))) (pre ss1 ss2 (m + 1)) Z (m + 1) (m + 1)) := R
                  clear R HI hDt hD hre HP
                  go_wp2
                  go_roundw
                  case rel => exact ⟨m + 1, D, by omega, HD, by omega, by go_num, rfl, HR.out⟩
                  case measure => simp [intOf]; omega
        · have hme : m = ss1.length := by omega
          rw [hme] at hI
          have e0 := HZ.out
          rw [e0] at hI
          have k1 := hI.kept
          rw [fill_full _ _ _ (by rw [B_len]; rfl)] at k1
          have k2 := hI.syms
          rw [fill_full _ _ _ (E_len _ _)] at k2
          have k3 := hI.texts
          rw [fill_full _ _ _ (E_len _ _)] at k3
          have HF : Hid (Arr 5 wr wb.heap.size (B (pre ss1 ss2 ss1.length)) ∧ Arr 21 wr (wb.heap.size + 1) (E (sE ss1 ss2) ss1.length) ∧ Arr 21 wr (wb.heap.size + 1 + 1) (E (tE ss1 ss2) ss1.length) ∧ Below w.heap.size w wr) := ⟨k1, k2, k3, hB.trans (hI.below.mono hB.size)⟩
          have hsz := hB.size
          clear k1 k2 k3 hI hme hA h1 h2 e0 hB
          go_wp2
          go_ret3
          exact ⟨wb.heap.size, wb.heap.size + 1, wb.heap.size + 1 + 1, by rw [← HZ.out]; rfl, hsz, by omega, by omega, HF.1, HF.2.1, HF.2.2.1, HF.2.2.2⟩
end Go.Proofs.Qxb6604621a
