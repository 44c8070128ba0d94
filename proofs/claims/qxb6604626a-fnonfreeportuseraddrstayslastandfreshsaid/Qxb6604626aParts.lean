/-
  THE WALKS OF THE CALLEES: zzBytes_.. (4), cloneStrings (5), onFreePort (7), ZZonFreePort (6).
-/
import Derived.Test.Qxb6604626aRows
import Derived.Test.Qxb6604626aArr
import Derived.RegionTactic
import Derived.Lib.SliceRun
import Derived.Deep.OwnRows
import Derived.ChangeAlike
import Derived.Deep.QuietTactic
import Derived.BigQuiet
import Derived.Laws.AppendOwnNone
namespace Go.Proofs.Qxb6604626a
open Go.RowKit Go.Deep

theorem Try.info9 : (Try.prog.info? 9).map (fun i => (i.zero, i.size, i.bytes)) = some (some (.string ByteArray.empty), 1, 16) := by kernel_rfl

/-! ### The size test -/
/-- What a size test answers: a bool; where it is true the sizes add up to at most 1<<20. (A name of its own: the walk's simp does not look behind it.) -/
def SizeRes (w : World) (n : Nat) (e : Ending) (w' : World) : Prop := ∃ r, e = .returned (.bool r) ∧ w' = w ∧ (r = true → n ≤ 1048576)

set_option maxHeartbeats 1000000 in
theorem bytes4 (a1 : Option Addr) (c1 : Nat) (ss1 : List ByteArray) (w : World) (h1 : Src w a1 ss1) (m1 : ss1.length ≤ maxLen) :
    Calls Try.prog 4 #[.slice a1 ss1.length c1] w fun e w' => SizeRes w (ss1.length + tot ss1) e w' := by
  unfold maxLen at m1
  by_cases hn1 : 1048576 < ss1.length
  · go_enter Try.func4, Try.ntmps4
    go_wp2
    go_ret
    exact ⟨false, rfl, rfl, by simp⟩
  go_enter Try.func4, Try.ntmps4
  go_wp2
  go_loop [3, 4] (fun z i => ∃ k Z : Nat, k ≤ ss1.length ∧ Hid (Z = ss1.length + tot (ss1.take k)) ∧ Z ≤ 1048576 ∧ i = .int .i64 k ∧ z = .int .i64 Z) (fun _ i => ss1.length - (intOf i).toNat)
  case atStart => exact ⟨0, ss1.length, Nat.zero_le _, by simp [Hid, tot], by omega, rfl, rfl⟩
  case round =>
    obtain ⟨k, Z, hk, hZ, hZ2, rfl, rfl⟩ := hrel
    by_cases hlt : k < ss1.length
    · have hlt' : (k : Int) < (ss1.length : Int) := by omega
      obtain ⟨b, off, rfl, hc⟩ := h1.at hlt
      have ht := tot_take_succ ss1 k hlt
      obtain ⟨s, hs⟩ : ∃ s, s = ss1.getD k ByteArray.empty := ⟨_, rfl⟩
      rw [← hs] at hc ht
      have HT : Hid (tot (ss1.take (k + 1)) = tot (ss1.take k) + s.size) := ht
      clear ht hs h1
      by_cases hb : 1048576 < s.size
      · go_wp2
        go_ret
        exact ⟨false, rfl, rfl, by simp⟩
      by_cases hb2 : 1048576 < Z + s.size
      · go_wp2
        go_ret
        exact ⟨false, rfl, rfl, by simp⟩
      go_wp2
      go_round
      case rel => exact ⟨k + 1, Z + s.size, by omega, by have := hZ.out; have := HT.out; unfold Hid; omega, by omega, by go_num, by go_num⟩
      case measure => simp [intOf]; omega
    · have HF : Hid (ss1.length + tot ss1 ≤ 1048576) := by have := hZ.out; rw [show k = ss1.length by omega, tot_all] at this; unfold Hid; omega
      clear hZ h1
      go_wp2
      go_ret
      exact ⟨true, rfl, rfl, fun _ => HF.out⟩

/-! ### cloneStrings -/
def CloneRes (w : World) (ss : List ByteArray) (e : Ending) (w' : World) : Prop := ∃ a c, e = .returned (.slice a ss.length c) ∧ (a = none → ss = [] ∧ c = 0) ∧ Src w' a ss ∧ Below w.heap.size w w'

theorem clone_nil (w : World) : Calls Try.prog 5 #[.slice none 0 0] w fun e w' => CloneRes w [] e w' := by
  have q22 := fun (w : World) (a : Option Addr) (n c n' c' : Nat) => Lib.run_eql_slice_nil (P := Try.prog) w 22 9 a n c n' c' Try.underlying22
  go_enter Try.func5, Try.ntmps5
  go_wp2
  go_ret
  exact ⟨none, 0, rfl, fun _ => ⟨rfl, rfl⟩, .inl rfl, Below.refl _ _⟩

theorem S_take_succ (ss : List ByteArray) (k : Nat) (h : k < ss.length) : S (ss.take (k + 1)) = S (ss.take k) ++ [.string (ss.getD k ByteArray.empty)] := by
  unfold S
  rw [List.take_succ_eq_append_getElem h, List.map_append]
  simp [List.getD, h]
theorem S_take_len (ss : List ByteArray) (k : Nat) (h : k ≤ ss.length) : (S (ss.take k)).length = k := by
  simp [S]; omega

set_option maxHeartbeats 400000 in
theorem clone_some (x : Addr) (cap : Nat) (ss : List ByteArray) (w : World) (hm : ss.length ≤ 1048576) (hc : Src w (some x) ss) :
    Calls Try.prog 5 #[.slice (some x) ss.length cap] w fun e w' => CloneRes w ss e w' := by
  have q22 := fun (w : World) (a : Option Addr) (n c n' c' : Nat) => Lib.run_eql_slice_nil (P := Try.prog) w 22 9 a n c n' c' Try.underlying22
  have hmk := fun w => run_make_row' (P := Try.prog) 22 9 (.string ByteArray.empty) 16 Try.underlying22 Try.info9 rfl .i64 .i64 ss.length (by omega) (by omega) w
  go_enter Try.func5, Try.ntmps5
  go_wp2
  go_loopw [4] (fun i wr => ∃ k : Nat, k ≤ ss.length ∧ i = .int .i64 k ∧ Arr 9 wr w.heap.size (fill (.string ByteArray.empty) (S (ss.take k)) ss.length) ∧ Below w.heap.size w wr) (fun i _ => ss.length - (intOf i).toNat)
  case atStart => exact ⟨0, Nat.zero_le _, rfl, made_arr _ _ _ _, (Below.refl _ _).alloc (Nat.le_refl _) _⟩
  case round =>
    clear q22 hmk
    obtain ⟨k, hk, rfl, harr, hbel⟩ := hrel
    by_cases hlt : k < ss.length
    · obtain ⟨b, off, hx, hcell⟩ := (hc.later (Nat.le_refl _) hbel).at hlt
      cases hx
      have R0 := S_take_succ ss k hlt
      have hL := S_take_len ss k hk
      obtain ⟨s, hs⟩ : ∃ s, s = ss.getD k ByteArray.empty := ⟨_, rfl⟩
      rw [← hs] at hcell R0
      obtain ⟨L, hLL⟩ : ∃ L, L = S (ss.take k) := ⟨_, rfl⟩
      rw [← hLL] at R0 harr hL
      have hcd : wr.cell? ⟨w.heap.size, k, none⟩ = some (.string ByteArray.empty) := by
        have := fill_at (.string ByteArray.empty) L ss.length (by omega)
        rw [hL] at this
        exact (harr.cell k).trans this
      have hfd := harr.frozen k
      have hlt' : (k : Int) < (ss.length : Int) := by omega
      have R1 := harr.setCell k (.string s)
      have R3 := fill_set (.string ByteArray.empty) (.string s) L ss.length (by omega)
      rw [hL] at R3
      rw [R3, ← R0] at R1
      have R2 := hbel.setCell (p := ⟨w.heap.size, k, none⟩) (Nat.le_refl _) (.string s)
      have HR : Hid (Arr 9 (wr.setCell ⟨w.heap.size, k, none⟩ (.string s)) w.heap.size (fill (.string ByteArray.empty) (S (ss.take (k + 1))) ss.length) ∧ Below w.heap.size w (wr.setCell ⟨w.heap.size, k, none⟩ (.string s))) := ⟨R1, R2⟩
      clear R0 R1 R2 R3 hL hLL harr hbel hc hs
      go_wp2
      go_roundw
      case rel => exact ⟨k + 1, by omega, by go_num, HR.1, HR.2⟩
      case measure => simp [intOf]; omega
    · rw [List.take_of_length_le (by omega), fill_full _ _ _ (S_len ss)] at harr
      go_wp2
      go_ret
      exact ⟨_, _, rfl, fun h => (by cases h), Src.of_arr harr, hbel⟩

theorem clone5 (a : Option Addr) (cap : Nat) (ss : List ByteArray) (w : World) (hz : a = none → ss = [] ∧ cap = 0) (hm : ss.length ≤ 1048576) (hc : Src w a ss) :
    Calls Try.prog 5 #[.slice a ss.length cap] w fun e w' => CloneRes w ss e w' := by
  cases a with
  | none =>
    obtain ⟨rfl, rfl⟩ := hz rfl
    exact clone_nil w
  | some x => exact clone_some x cap ss w hm hc

/-! ### onFreePort -/
def addr : ByteArray := ⟨#[45, 97, 100, 100, 114]⟩
def port : ByteArray := ⟨#[49, 50, 55, 46, 48, 46, 48, 46, 49, 58, 48]⟩
/-- A new slice: the two words, then the strings of ss. -/
def FreeRes (w : World) (ss : List ByteArray) (e : Ending) (w' : World) : Prop :=
  ∃ g cap rest, e = .returned (.slice (some ⟨g, 0, none⟩) (2 + ss.length) cap) ∧ w.heap.size ≤ g ∧ Arr 9 w' g (S (addr :: port :: ss) ++ rest) ∧ Below w.heap.size w w'

set_option maxHeartbeats 400000 in
theorem free_nil (w : World) : Calls Try.prog 7 #[.slice none 0 0] w fun e w' => FreeRes w [] e w' := by
  go_enter Try.func7, Try.ntmps7
  go_wp2
  go_ret
  exact ⟨w.heap.size, 2, [], rfl, Nat.le_refl _, Arr.new 9 w _, (Below.refl _ _).alloc (Nat.le_refl _) _⟩

theorem own_shape {w : World} {base : Nat} {v : Value} {n : Nat} {xs : List Value} (h : w.ownsRow base 9 1 v n xs) (hn : 0 < n) :
    ∃ g cap rest, v = .slice (some ⟨g, 0, none⟩) n cap ∧ base ≤ g ∧ Arr 9 w g (xs ++ rest) := by
  rcases h.2 with ⟨_, h0⟩ | ⟨g, cap, cur, hv, hg, hh, _, _, _, ht⟩
  · omega
  · refine ⟨g, cap, cur.toList.drop (n * 1), hv, hg, ?_⟩
    rw [← ht, List.take_append_drop]
    exact hh

/-- The two words, in a new row. -/
def two : Obj := .cells #[.string ⟨#[45, 97, 100, 100, 114]⟩, .string ⟨#[49, 50, 55, 46, 48, 46, 48, 46, 49, 58, 48]⟩] 9

theorem two_own (w : World) : (w.alloc two).ownsRow w.heap.size 9 1 (.slice (some ⟨w.heap.size, 0, none⟩) 2 2) 2 (S [addr, port]) :=
  World.ownsRow_lit w #[.string ⟨#[45, 97, 100, 100, 114]⟩, .string ⟨#[49, 50, 55, 46, 48, 46, 48, 46, 49, 58, 48]⟩] 2 (Nat.le_refl _) (by decide) rfl

theorem src_cells {w : World} {x : Addr} {ss : List ByteArray} (hc : Src w (some x) ss) (o : Obj) : ∀ j u, (S ss)[j]? = some u → (w.alloc o).cell? (x.add j) = some u := by
  intro j u hu
  rcases hc with rfl | ⟨b, off, hx, hcell⟩
  · simp [S] at hu
  · cases hx
    have hj : j < ss.length := by have := (List.getElem?_eq_some_iff.1 hu).1; simpa [S] using this
    rw [S_get ss j hj] at hu
    have h1 := hcell j hj
    rw [Addr.add_lit, (((Below.refl w.heap.size w).alloc (Nat.le_refl _) o).cell (p := ⟨b, off + j, none⟩) (World.block_lt_of_cell? w _ h1)), h1]
    exact hu

theorem S_one (ss : List ByteArray) : ∀ u ∈ S ss, u.oneCell' = true := by
  intro u hu
  obtain ⟨_, _, rfl⟩ := List.mem_map.1 hu
  rfl

set_option maxHeartbeats 400000 in
theorem free_some (x : Addr) (cap : Nat) (ss : List ByteArray) (w : World) (hm : ss.length ≤ 1048576) (hc : Src w (some x) ss) :
    Calls Try.prog 7 #[.slice (some x) ss.length cap] w fun e w' => FreeRes w ss e w' := by
  obtain ⟨i0, hi, hz0, hz1, hz2⟩ := info_parts Try.info9
  have C1 := src_cells hc two
  have C0 := two_own w
  clear hc
  go_enter Try.func7, Try.ntmps7
  go_wp2_with (at_builtin; refine wpList_append_own _ rfl _ _ 22 rfl w.heap.size 9 i0 (.string ByteArray.empty) 1 16 Try.underlying22 hi hz0 hz1 hz2 rfl (by decide) _ _ _ rfl C0 x ss.length cap (S ss) rfl ?c0 C1 ?c2 ?c3 ?c4 ?c5 ?_)
  case c0 => simp [S]
  case c2 => exact S_one ss
  case c3 => unfold maxLen; omega
  case c4 => omega
  case c5 => simp
  intro v' w1 hown hgrow _
  have hB : Below w.heap.size w w1 := ((Below.refl _ _).alloc (Nat.le_refl _) _).grown hgrow (by simp) (fun k hk => by simp [Value.ownBlock] at hk; omega)
  obtain ⟨g, c, rest, hv, hg, ha⟩ := own_shape hown (by omega)
  clear hown hgrow C0 C1
  rw [hv]
  clear hv
  go_wp2
  go_ret
  exact ⟨g, c, rest, rfl, hg, ha, hB⟩

theorem free7 (a : Option Addr) (cap : Nat) (ss : List ByteArray) (w : World) (hz : a = none → ss = [] ∧ cap = 0) (hm : ss.length ≤ 1048576) (hc : Src w a ss) :
    Calls Try.prog 7 #[.slice a ss.length cap] w fun e w' => FreeRes w ss e w' := by
  cases a with
  | none =>
    obtain ⟨rfl, rfl⟩ := hz rfl
    exact free_nil w
  | some x => exact free_some x cap ss w hm hc

theorem free6 (a : Option Addr) (cap : Nat) (ss : List ByteArray) (w : World) (hz : a = none → ss = [] ∧ cap = 0) (hm : ss.length ≤ 1048576) (hc : Src w a ss) :
    Calls Try.prog 6 #[.slice a ss.length cap] w fun e w' => FreeRes w ss e w' := by
  have H := free7 a cap ss w hz hm hc
  clear hz hc
  go_enter Try.func6, Try.ntmps6
  go_wp2_with fail
  refine H.mono ?_
  rintro e w' ⟨g, c, rest, rfl, hg, ha, hb⟩
  go_wp2
  go_ret
  exact ⟨g, c, rest, rfl, hg, ha, hb⟩
end Go.Proofs.Qxb6604626a
