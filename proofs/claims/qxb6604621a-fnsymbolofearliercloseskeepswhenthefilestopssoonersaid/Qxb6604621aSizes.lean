/-
  THE WALKS OF THE SIZE TESTS: zzBytes_.. (functions 5, 13) and zzPB1TextBytes (6).
-/
import Derived.Test.Qxb6604621aRows
import Derived.Test.Qxb6604621aArr
import Derived.RegionTactic
import Derived.Lib.SliceRun
import Derived.Deep.OwnRows
import Derived.ChangeAlike
import Derived.Deep.QuietTactic
import Derived.BigQuiet
namespace Go.Proofs.Qxb6604621a
open Go.RowKit Go.Deep

/-- What a size test answers: a bool; where it is true the sizes add up to at most 1<<20. (A name of its own: the walk's simp does not look behind it.) -/
def SizeRes (w : World) (n : Nat) (e : Ending) (w' : World) : Prop := ∃ r, e = .returned (.bool r) ∧ w' = w ∧ (r = true → n ≤ 1048576)

set_option maxHeartbeats 1000000 in
theorem bytes5 (a1 a2 : Option Addr) (c1 c2 : Nat) (ss1 ss2 : List ByteArray) (w : World) (h1 : Src w a1 ss1) (h2 : Src w a2 ss2) (m1 : ss1.length ≤ maxLen) (m2 : ss2.length ≤ maxLen) :
    Calls Try.prog 5 #[.slice a1 ss1.length c1, .slice a2 ss2.length c2] w fun e w' => SizeRes w (ss1.length + tot ss1 + ss2.length + tot ss2) e w' := by
  unfold maxLen at m1 m2
  by_cases hn1 : 1048576 < ss1.length
  · go_enter Try.func5, Try.ntmps5
    go_wp2
    go_ret
    exact ⟨false, rfl, rfl, by simp⟩
  go_enter Try.func5, Try.ntmps5
  go_wp2
  go_loop [5, 6] (fun z i => ∃ k Z : Nat, k ≤ ss1.length ∧ Hid (Z = ss1.length + tot (ss1.take k)) ∧ Z ≤ 1048576 ∧ i = .int .i64 k ∧ z = .int .i64 Z) (fun _ i => ss1.length - (intOf i).toNat)
  case atStart => exact ⟨0, ss1.length, Nat.zero_le _, by simp [Hid, tot], by omega, rfl, rfl⟩
  case round =>
    obtain ⟨k, Z, hk, hZ, hZ2, rfl, rfl⟩ := hrel
    by_cases hlt : k < ss1.length
    · have hlt' : (k : Int) < (ss1.length : Int) := by omega
      obtain ⟨b, off, rfl, hc⟩ := h1.at hlt
      have ht := tot_take_succ ss1 k hlt
      obtain ⟨s, hs⟩ : ∃ s, s = ss1.getD k ByteArray.empty := ⟨_, rfl⟩
      rw [← hs] at hc ht
      have HT : Hid (tot (ss1.take (k + 1)) = tot (ss1.take k) + s.size) := ht
      clear ht hs h1 h2
      by_cases hb : 1048576 < s.size
      · go_wp2
        go_ret
        exact ⟨false, rfl, rfl, by simp⟩
      by_cases hb2 : 1048576 < Z + s.size
      · go_wp2
        go_ret
        exact ⟨false, rfl, rfl, by simp⟩
      go_wp2
      go_round
      case rel => exact ⟨k + 1, Z + s.size, by omega, by have := hZ.out; have := HT.out; unfold Hid; omega, by omega, by go_num, by go_num⟩
      case measure => simp [intOf]; omega
    · have HZ : Hid (Z = ss1.length + tot ss1) := by have := hZ.out; rw [show k = ss1.length by omega, tot_all] at this; exact this
      clear hZ h1
      by_cases hn2 : 1048576 < ss2.length
      · go_wp2
        go_ret
        exact ⟨false, rfl, rfl, by simp⟩
      by_cases hn3 : 1048576 < Z + ss2.length
      · go_wp2
        go_ret
        exact ⟨false, rfl, rfl, by simp⟩
      go_wp2
      go_loop [5, 7] (fun z i => ∃ k Y : Nat, k ≤ ss2.length ∧ Hid (Y = Z + ss2.length + tot (ss2.take k)) ∧ Y ≤ 1048576 ∧ i = .int .i64 k ∧ z = .int .i64 Y) (fun _ i => ss2.length - (intOf i).toNat)
      case atStart => exact ⟨0, Z + ss2.length, Nat.zero_le _, by simp [Hid, tot], by omega, rfl, by go_num⟩
      case round =>
        obtain ⟨m, Y, hm, hY, hY2, rfl, rfl⟩ := hrel
        by_cases hlt2 : m < ss2.length
        · have hlt2' : (m : Int) < (ss2.length : Int) := by omega
          obtain ⟨b, off, rfl, hc⟩ := h2.at hlt2
          have ht := tot_take_succ ss2 m hlt2
          obtain ⟨s, hs⟩ : ∃ s, s = ss2.getD m ByteArray.empty := ⟨_, rfl⟩
          rw [← hs] at hc ht
          have HT : Hid (tot (ss2.take (m + 1)) = tot (ss2.take m) + s.size) := ht
          clear ht hs h2
          by_cases hb : 1048576 < s.size
          · go_wp2
            go_ret
            exact ⟨false, rfl, rfl, by simp⟩
          by_cases hb2 : 1048576 < Y + s.size
          · go_wp2
            go_ret
            exact ⟨false, rfl, rfl, by simp⟩
          go_wp2
          go_round
          case rel => exact ⟨m + 1, Y + s.size, by omega, by have := hY.out; have := HT.out; unfold Hid; omega, by omega, by go_num, by go_num⟩
          case measure => simp [intOf]; omega
        · have HY : Y = Z + ss2.length + tot ss2 := by have := hY.out; rw [show m = ss2.length by omega, tot_all] at this; exact this
          have HF : Hid (ss1.length + tot ss1 + ss2.length + tot ss2 ≤ 1048576) := by have := HZ.out; unfold Hid; omega
          clear HY HZ hY
          go_wp2
          go_ret
          exact ⟨true, rfl, rfl, fun _ => HF.out⟩

set_option maxHeartbeats 1000000 in
theorem bytes13 (a1 a2 : Option Addr) (c1 c2 : Nat) (ss1 ss2 : List ByteArray) (kk : Int) (w : World) (h1 : Src w a1 ss1) (h2 : Src w a2 ss2) (m1 : ss1.length ≤ maxLen) (m2 : ss2.length ≤ maxLen) :
    Calls Try.prog 13 #[.slice a1 ss1.length c1, .slice a2 ss2.length c2, .int .i64 kk] w fun e w' => SizeRes w (ss1.length + tot ss1 + ss2.length + tot ss2) e w' := by
  unfold maxLen at m1 m2
  by_cases hn1 : 1048576 < ss1.length
  · go_enter Try.func13, Try.ntmps13
    go_wp2
    go_ret
    exact ⟨false, rfl, rfl, by simp⟩
  go_enter Try.func13, Try.ntmps13
  go_wp2
  go_loop [7, 8] (fun z i => ∃ k Z : Nat, k ≤ ss1.length ∧ Hid (Z = ss1.length + tot (ss1.take k)) ∧ Z ≤ 1048576 ∧ i = .int .i64 k ∧ z = .int .i64 Z) (fun _ i => ss1.length - (intOf i).toNat)
  case atStart => exact ⟨0, ss1.length, Nat.zero_le _, by simp [Hid, tot], by omega, rfl, rfl⟩
  case round =>
    obtain ⟨k, Z, hk, hZ, hZ2, rfl, rfl⟩ := hrel
    by_cases hlt : k < ss1.length
    · have hlt' : (k : Int) < (ss1.length : Int) := by omega
      obtain ⟨b, off, rfl, hc⟩ := h1.at hlt
      have ht := tot_take_succ ss1 k hlt
      obtain ⟨s, hs⟩ : ∃ s, s = ss1.getD k ByteArray.empty := ⟨_, rfl⟩
      rw [← hs] at hc ht
      have HT : Hid (tot (ss1.take (k + 1)) = tot (ss1.take k) + s.size) := ht
      clear ht hs h1 h2
      by_cases hb : 1048576 < s.size
      · go_wp2
        go_ret
        exact ⟨false, rfl, rfl, by simp⟩
      by_cases hb2 : 1048576 < Z + s.size
      · go_wp2
        go_ret
        exact ⟨false, rfl, rfl, by simp⟩
      go_wp2
      go_round
      case rel => exact ⟨k + 1, Z + s.size, by omega, by have := hZ.out; have := HT.out; unfold Hid; omega, by omega, by go_num, by go_num⟩
      case measure => simp [intOf]; omega
    · have HZ : Hid (Z = ss1.length + tot ss1) := by have := hZ.out; rw [show k = ss1.length by omega, tot_all] at this; exact this
      clear hZ h1
      by_cases hn2 : 1048576 < ss2.length
      · go_wp2
        go_ret
        exact ⟨false, rfl, rfl, by simp⟩
      by_cases hn3 : 1048576 < Z + ss2.length
      · go_wp2
        go_ret
        exact ⟨false, rfl, rfl, by simp⟩
      go_wp2
      go_loop [7, 9] (fun z i => ∃ k Y : Nat, k ≤ ss2.length ∧ Hid (Y = Z + ss2.length + tot (ss2.take k)) ∧ Y ≤ 1048576 ∧ i = .int .i64 k ∧ z = .int .i64 Y) (fun _ i => ss2.length - (intOf i).toNat)
      case atStart => exact ⟨0, Z + ss2.length, Nat.zero_le _, by simp [Hid, tot], by omega, rfl, by go_num⟩
      case round =>
        obtain ⟨m, Y, hm, hY, hY2, rfl, rfl⟩ := hrel
        by_cases hlt2 : m < ss2.length
        · have hlt2' : (m : Int) < (ss2.length : Int) := by omega
          obtain ⟨b, off, rfl, hc⟩ := h2.at hlt2
          have ht := tot_take_succ ss2 m hlt2
          obtain ⟨s, hs⟩ : ∃ s, s = ss2.getD m ByteArray.empty := ⟨_, rfl⟩
          rw [← hs] at hc ht
          have HT : Hid (tot (ss2.take (m + 1)) = tot (ss2.take m) + s.size) := ht
          clear ht hs h2
          by_cases hb : 1048576 < s.size
          · go_wp2
            go_ret
            exact ⟨false, rfl, rfl, by simp⟩
          by_cases hb2 : 1048576 < Y + s.size
          · go_wp2
            go_ret
            exact ⟨false, rfl, rfl, by simp⟩
          go_wp2
          go_round
          case rel => exact ⟨m + 1, Y + s.size, by omega, by have := hY.out; have := HT.out; unfold Hid; omega, by omega, by go_num, by go_num⟩
          case measure => simp [intOf]; omega
        · have HY : Y = Z + ss2.length + tot ss2 := by have := hY.out; rw [show m = ss2.length by omega, tot_all] at this; exact this
          have HF : Hid (ss1.length + tot ss1 + ss2.length + tot ss2 ≤ 1048576) := by have := HZ.out; unfold Hid; omega
          clear HY HZ hY
          go_wp2
          go_ret
          exact ⟨true, rfl, rfl, fun _ => HF.out⟩

/-- It answers some number. -/
def IntRes (w : World) (e : Ending) (w' : World) : Prop := ∃ t, e = .returned (.int .i64 t) ∧ w' = w

set_option maxHeartbeats 1000000 in
theorem text6 (a1 a2 : Option Addr) (c1 c2 : Nat) (ss1 ss2 : List ByteArray) (w : World) (h1 : Src w a1 ss1) (h2 : Src w a2 ss2) (hm : ss1.length + tot ss1 + ss2.length + tot ss2 ≤ 1048576) :
    Calls Try.prog 6 #[.slice a1 ss1.length c1, .slice a2 ss2.length c2] w fun e w' => IntRes w e w' := by
  go_enter Try.func6, Try.ntmps6
  go_wp2
  go_loop [5, 6] (fun z i => ∃ k Z : Nat, k ≤ ss1.length ∧ Hid (Z = 16 * ss1.length + 16 * ss2.length + tot (ss1.take k)) ∧ Z ≤ 17825792 ∧ i = .int .i64 k ∧ z = .int .i64 Z) (fun _ i => ss1.length - (intOf i).toNat)
  case atStart => exact ⟨0, 16 * ss1.length + 16 * ss2.length, Nat.zero_le _, by simp [Hid, tot], by omega, rfl, by go_num⟩
  case round =>
    obtain ⟨k, Z, hk, hZ, hZ2, rfl, rfl⟩ := hrel
    by_cases hlt : k < ss1.length
    · have hlt' : (k : Int) < (ss1.length : Int) := by omega
      obtain ⟨b, off, rfl, hc⟩ := h1.at hlt
      have ht := tot_take_succ ss1 k hlt
      have hle := tot_take_le ss1 (k + 1)
      obtain ⟨s, hs⟩ : ∃ s, s = ss1.getD k ByteArray.empty := ⟨_, rfl⟩
      rw [← hs] at hc ht
      have hsz : s.size ≤ 1048576 := by omega
      have HT : Hid (tot (ss1.take (k + 1)) = tot (ss1.take k) + s.size ∧ Z + s.size ≤ 17825792) := ⟨ht, by have := hZ.out; omega⟩
      clear ht hs h1 h2 hle
      by_cases hb2 : 1048576 < Z + s.size
      · go_wp2
        go_ret
        exact ⟨_, rfl, rfl⟩
      go_wp2
      go_round
      case rel => exact ⟨k + 1, Z + s.size, by omega, by have := hZ.out; have := HT.1; unfold Hid; omega, HT.2, by go_num, by go_num⟩
      case measure => simp [intOf]; omega
    · have HZ : Hid (Z = 16 * ss1.length + 16 * ss2.length + tot ss1) := by have := hZ.out; rw [show k = ss1.length by omega, tot_all] at this; exact this
      clear hZ h1
      go_wp2
      go_loop [5, 7] (fun z i => ∃ k Y : Nat, k ≤ ss2.length ∧ Hid (Y = Z + tot (ss2.take k)) ∧ Y ≤ 17825792 ∧ i = .int .i64 k ∧ z = .int .i64 Y) (fun _ i => ss2.length - (intOf i).toNat)
      case atStart => exact ⟨0, Z, Nat.zero_le _, by simp [Hid, tot], by omega, rfl, rfl⟩
      case round =>
        obtain ⟨m, Y, hm2, hY, hY2, rfl, rfl⟩ := hrel
        by_cases hlt2 : m < ss2.length
        · have hlt2' : (m : Int) < (ss2.length : Int) := by omega
          obtain ⟨b, off, rfl, hc⟩ := h2.at hlt2
          have ht := tot_take_succ ss2 m hlt2
          have hle := tot_take_le ss2 (m + 1)
          obtain ⟨s, hs⟩ : ∃ s, s = ss2.getD m ByteArray.empty := ⟨_, rfl⟩
          rw [← hs] at hc ht
          have hsz : s.size ≤ 1048576 := by omega
          have HT : Hid (tot (ss2.take (m + 1)) = tot (ss2.take m) + s.size ∧ Y + s.size ≤ 17825792) := ⟨ht, by have := hY.out; have := HZ.out; omega⟩
          clear ht hs h2 hle
          by_cases hb2 : 1048576 < Y + s.size
          · go_wp2
            go_ret
            exact ⟨_, rfl, rfl⟩
          go_wp2
          go_round
          case rel => exact ⟨m + 1, Y + s.size, by omega, by have := hY.out; have := HT.1; unfold Hid; omega, HT.2, by go_num, by go_num⟩
          case measure => simp [intOf]; omega
        · go_wp2
          go_ret
          exact ⟨_, rfl, rfl⟩

end Go.Proofs.Qxb6604621a
