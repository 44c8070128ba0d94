/-
  THE WALKS OF THE SMALL CALLEES: zzPB1CloneStrings (7), zzPB1TextAt (14), zzPB1SameBytes (11).
-/
import Derived.Test.Qxb6604621aSizes
namespace Go.Proofs.Qxb6604621a
open Go.RowKit Go.Deep

theorem Try.info9 : (Try.prog.info? 9).map (fun i => (i.zero, i.size, i.bytes)) = some (some (.string ByteArray.empty), 1, 16) := by kernel_rfl
theorem Try.info5 : (Try.prog.info? 5).map (fun i => (i.zero, i.size, i.bytes)) = some (some (.int .u8 0), 1, 1) := by kernel_rfl
theorem Try.info21 : (Try.prog.info? 21).map (fun i => (i.zero, i.size, i.bytes)) = some (some (.int .i32 0), 1, 4) := by kernel_rfl

/-! ### zzPB1CloneStrings -/
def CloneRes (w : World) (ss : List ByteArray) (e : Ending) (w' : World) : Prop := ∃ a c, e = .returned (.slice a ss.length c) ∧ Src w' a ss ∧ Below w.heap.size w w'

theorem clone_nil (w : World) : Calls Try.prog 7 #[.slice none 0 0] w fun e w' => CloneRes w [] e w' := by
  have q22 := fun (w : World) (a : Option Addr) (n c n' c' : Nat) => Lib.run_eql_slice_nil (P := Try.prog) w 22 9 a n c n' c' Try.underlying22
  go_enter Try.func7, Try.ntmps7
  go_wp2
  go_ret
  exact ⟨none, 0, rfl, .inl rfl, Below.refl _ _⟩

theorem S_take_succ (ss : List ByteArray) (k : Nat) (h : k < ss.length) : S (ss.take (k + 1)) = S (ss.take k) ++ [.string (ss.getD k ByteArray.empty)] := by
  unfold S
  rw [List.take_succ_eq_append_getElem h, List.map_append]
  simp [List.getD, h]
theorem S_take_len (ss : List ByteArray) (k : Nat) (h : k ≤ ss.length) : (S (ss.take k)).length = k := by
  simp [S]; omega

set_option maxHeartbeats 400000 in
theorem clone_some (x : Addr) (cap : Nat) (ss : List ByteArray) (w : World) (hm : ss.length ≤ 1048576) (hc : Src w (some x) ss) :
    Calls Try.prog 7 #[.slice (some x) ss.length cap] w fun e w' => CloneRes w ss e w' := by
  have q22 := fun (w : World) (a : Option Addr) (n c n' c' : Nat) => Lib.run_eql_slice_nil (P := Try.prog) w 22 9 a n c n' c' Try.underlying22
  have hmk := fun w => run_make_row' (P := Try.prog) 22 9 (.string ByteArray.empty) 16 Try.underlying22 Try.info9 rfl .i64 .i64 ss.length (by omega) (by omega) w
  go_enter Try.func7, Try.ntmps7
  go_wp2
  go_loopw [4] (fun i wr => ∃ k : Nat, k ≤ ss.length ∧ i = .int .i64 k ∧ Arr 9 wr w.heap.size (fill (.string ByteArray.empty) (S (ss.take k)) ss.length) ∧ Below w.heap.size w wr) (fun i _ => ss.length - (intOf i).toNat)
  case atStart => exact ⟨0, Nat.zero_le _, rfl, made_arr _ _ _ _, (Below.refl _ _).alloc (Nat.le_refl _) _⟩
  case round =>
    clear q22 hmk
    obtain ⟨k, hk, rfl, harr, hbel⟩ := hrel
    by_cases hlt : k < ss.length
    · obtain ⟨b, off, hx, hcell⟩ := (hc.later (Nat.le_refl _) hbel).at hlt
      cases hx
      have R0 := S_take_succ ss k hlt
      have hL := S_take_len ss k hk
      obtain ⟨s, hs⟩ : ∃ s, s = ss.getD k ByteArray.empty := ⟨_, rfl⟩
      rw [← hs] at hcell R0
      obtain ⟨L, hLL⟩ : ∃ L, L = S (ss.take k) := ⟨_, rfl⟩
      rw [← hLL] at R0 harr hL
      have hcd : wr.cell? ⟨w.heap.size, k, none⟩ = some (.string ByteArray.empty) := by
        have := fill_at (.string ByteArray.empty) L ss.length (by omega)
        rw [hL] at this
        exact (harr.cell k).trans this
      have hfd := harr.frozen k
      have hlt' : (k : Int) < (ss.length : Int) := by omega
      have R1 := harr.setCell k (.string s)
      have R3 := fill_set (.string ByteArray.empty) (.string s) L ss.length (by omega)
      rw [hL] at R3
      rw [R3, ← R0] at R1
      have R2 := hbel.setCell (p := ⟨w.heap.size, k, none⟩) (Nat.le_refl _) (.string s)
      have HR : Hid (Arr 9 (wr.setCell ⟨w.heap.size, k, none⟩ (.string s)) w.heap.size (fill (.string ByteArray.empty) (S (ss.take (k + 1))) ss.length) ∧ Below w.heap.size w (wr.setCell ⟨w.heap.size, k, none⟩ (.string s))) := ⟨R1, R2⟩
      clear R0 R1 R2 R3 hL hLL harr hbel hc hs
      go_wp2
      go_roundw
      case rel => exact ⟨k + 1, by omega, by go_num, HR.1, HR.2⟩
      case measure => simp [intOf]; omega
    · rw [List.take_of_length_le (by omega), fill_full _ _ _ (S_len ss)] at harr
      go_wp2
      go_ret
      exact ⟨_, _, rfl, Src.of_arr harr, hbel⟩

/-! ### zzPB1TextAt -/
theorem textAt_in (a : Option Addr) (c k : Nat) (ss : List ByteArray) (w : World) (h : Src w a ss) (hk : k < ss.length) :
    Calls Try.prog 14 #[.slice a ss.length c, .int .i64 k] w fun e w' => e = .returned (.string (ss.getD k ByteArray.empty)) ∧ w' = w := by
  obtain ⟨b, off, rfl, hc⟩ := h.at hk
  obtain ⟨s, hs⟩ : ∃ s, s = ss.getD k ByteArray.empty := ⟨_, rfl⟩
  rw [← hs] at hc ⊢
  have hlt' : (k : Int) < (ss.length : Int) := by omega
  clear hs h
  go_enter Try.func14, Try.ntmps14
  go_wp2
  go_ret
  exact ⟨rfl, rfl⟩

theorem textAt_out (a : Option Addr) (c k : Nat) (ss : List ByteArray) (w : World) (hk : ¬ k < ss.length) :
    Calls Try.prog 14 #[.slice a ss.length c, .int .i64 k] w fun e w' => e = .returned (.string (ss.getD k ByteArray.empty)) ∧ w' = w := by
  have hs : ss.getD k ByteArray.empty = ByteArray.empty := by simp [List.getD, hk]
  rw [hs]
  clear hs
  go_enter Try.func14, Try.ntmps14
  go_wp2
  go_ret
  exact ⟨rfl, rfl⟩

theorem textAt (a : Option Addr) (c k : Nat) (ss : List ByteArray) (w : World) (h : Src w a ss) :
    Calls Try.prog 14 #[.slice a ss.length c, .int .i64 k] w fun e w' => e = .returned (.string (ss.getD k ByteArray.empty)) ∧ w' = w := by
  by_cases hk : k < ss.length
  · exact textAt_in a c k ss w h hk
  · exact textAt_out a c k ss w hk

/-! ### zzPB1SameBytes -/
/-- The bytes that a slice leads to, or nothing. -/
def BSrc (w : World) (a : Option Addr) (s : ByteArray) : Prop :=
  s.size = 0 ∨ ∃ b off, a = some ⟨b, off, none⟩ ∧ ∀ j, (h : j < s.size) → w.cell? ⟨b, off + j, none⟩ = some (.int .u8 ((s[j]'h).toNat : Int))
theorem BSrc.at {w : World} {a : Option Addr} {s : ByteArray} (h : BSrc w a s) {k : Nat} (hk : k < s.size) :
    ∃ b off, a = some ⟨b, off, none⟩ ∧ w.cell? ⟨b, off + k, none⟩ = some (.int .u8 ((s[k]'hk).toNat : Int)) := by
  rcases h with h | ⟨b, off, ha, hc⟩
  · omega
  · exact ⟨b, off, ha, hc k hk⟩
theorem BSrc.drewN {w : World} {a : Option Addr} {s : ByteArray} (h : BSrc w a s) (n : Nat) : BSrc (w.drewN n) a s := h

set_option maxHeartbeats 400000 in
theorem same11 (a : Option Addr) (c : Nat) (s : ByteArray) (w : World) (hm : s.size ≤ 1048576) (h : BSrc w a s) :
    Calls Try.prog 11 #[.slice a s.size c, .string s] w fun e w' => e = .returned (.bool true) ∧ ∃ m, w' = w.drewN m := by
  go_enter Try.func11, Try.ntmps11
  go_wp2
  go_loopw [5] (fun i wr => ∃ k : Nat, k ≤ s.size ∧ i = .int .i64 k ∧ ∃ m, wr = w.drewN m) (fun i _ => s.size - (intOf i).toNat)
  case atStart => exact ⟨0, Nat.zero_le _, rfl, 0, rfl⟩
  case round =>
    obtain ⟨k, hk, rfl, m, rfl⟩ := hrel
    by_cases hlt : k < s.size
    · have hlt' : (k : Int) < (s.size : Int) := by omega
      obtain ⟨b, off, rfl, hc⟩ := h.at hlt
      clear h
      go_wp2
      go_quiet (fail)
      go_wp2
      go_roundw
      case rel => exact ⟨k + 1, by omega, by go_num, _, rfl⟩
      case measure => simp [intOf]; omega
    · go_wp2
      go_ret
      exact ⟨rfl, m, rfl⟩

end Go.Proofs.Qxb6604621a
