/-
  THE WALKS OF package prices: ZZnewFileCloses (9), ZZsetFileCloseEnds (10), start (16), symbol (15), ZZfileClosesSymbol (12).
-/
import Derived.Test.Qxb6604621aParts
namespace Go.Proofs.Qxb6604621a
open Go.RowKit Go.Deep
set_option linter.unusedVariables false

theorem Try.info46 : (Try.prog.info? 46).map (fun i => (i.size, i.bytes)) = some (7, 48) := by kernel_rfl
theorem Try.zero46 : (Try.prog.info? 46).map (fun i => i.zero.isSome) = some true := by kernel_rfl

/-- 'make([]fileClose, n)': a new row of n times seven cells. -/
theorem make37 : ∃ z : Array Value, ∀ (n : Nat) (w : World), n ≤ 65536 →
    (Instr.makeSlice 37 (.int .i64 (n : Int)) (.int .i64 (n : Int))).run Try.prog w = .ok (.slice (some ⟨w.heap.size, 0, none⟩) n n) (w.alloc (.cells (madeCells z (n * 7)) 46)) := by
  obtain ⟨i, hi, h1⟩ := Option.map_eq_some_iff.1 Try.info46
  obtain ⟨i', hi', h2⟩ := Option.map_eq_some_iff.1 Try.zero46
  rw [hi] at hi'
  cases hi'
  obtain ⟨z, hz⟩ := Option.isSome_iff_exists.1 h2
  simp only [Prod.mk.injEq] at h1
  refine ⟨z.cells, fun n w hn => ?_⟩
  have hb : (i.bytes : Int) * (n : Int) ≤ 281474976710656 := by rw [h1.2]; omega
  have hr := run_make (P := Try.prog) w 37 46 i z Try.underlying37 hi hz .i64 .i64 n n (by omega) (Int.le_refl _) hb (by omega)
  simp only [Int.toNat_natCast, h1.1] at hr
  exact hr

/-- The closes of a file: n structs of seven cells; of the first k the ends of the symbol and of the text stand as SE and TE say. -/
def Closes (w : World) (gc n : Nat) (SE TE : Nat → Nat) (k : Nat) : Prop :=
  ∃ cs : List Value, Arr 46 w gc cs ∧ cs.length = n * 7 ∧ ∀ i, i < k → cs[i * 7 + 4]? = some (.int .i32 (SE i : Int)) ∧ cs[i * 7 + 5]? = some (.int .i32 (TE i : Int))
/-- The file itself, behind its pointer. -/
def FileAt (w : World) (gf gc n gk m : Nat) : Prop := Arr 41 w gf [.slice (some ⟨gc, 0, none⟩) n n, .slice (some ⟨gk, 0, none⟩) m m, .nilIface]

def NewRes (w : World) (n gk m : Nat) (e : Ending) (w' : World) : Prop :=
  ∃ gf gc, e = .returned (.pointer (some ⟨gf, 0, none⟩)) ∧ w.heap.size ≤ gf ∧ w.heap.size ≤ gc ∧ gc ≠ gf ∧ FileAt w' gf gc n gk m ∧ (∀ SE TE, Closes w' gc n SE TE 0) ∧ Below w.heap.size w w'

set_option maxHeartbeats 400000 in
theorem new9 (gk m n : Nat) (w : World) (hn : n ≤ 65536) :
    Calls Try.prog 9 #[.slice (some ⟨gk, 0, none⟩) m m, .int .i64 n] w fun e w' => NewRes w n gk m e w' := by
  obtain ⟨z, hz⟩ := make37
  have hmk := fun w => hz n w hn
  clear hz
  go_enter Try.func9, Try.ntmps9
  go_wp2
  go_ret
  refine ⟨w.heap.size + 1, w.heap.size, rfl, by omega, by omega, by omega, ?_, fun SE TE => ⟨(madeCells z (n * 7)).toList, ?_, by simp [size_madeCells], fun i hi => absurd hi (by omega)⟩, ((Below.refl _ _).alloc (Nat.le_refl _) _).alloc (by simp) _⟩
  · have h := heap_alloc_new (w.alloc (.cells (madeCells z (n * 7)) 46)) (.cells #[.slice (some ⟨w.heap.size, 0, none⟩) n n, .slice (some ⟨gk, 0, none⟩) m m, .nilIface] 41)
    unfold FileAt Arr
    simpa using h
  · refine Arr.alloc ?_ _
    unfold Arr
    have h := heap_alloc_new w (.cells (madeCells z (n * 7)) 46)
    simpa using h

set_option maxHeartbeats 400000 in
theorem set10_cells (gf gc n gk m i : Nat) (s t : Int) (u v : Value) (w : World) (hi : i < n) (hn : n ≤ 65536)
    (h0 : w.cell? ⟨gf, 0, none⟩ = some (.slice (some ⟨gc, 0, none⟩) n n)) (hne : gc ≠ gf) (hu : w.cell? ⟨gc, i * 7 + 4, none⟩ = some u) (hv : w.cell? ⟨gc, i * 7 + 5, none⟩ = some v)
    (fu : w.frozen? ⟨gc, i * 7 + 4, none⟩ = false) (fv : w.frozen? ⟨gc, i * 7 + 5, none⟩ = false) :
    Calls Try.prog 10 #[.pointer (some ⟨gf, 0, none⟩), .int .i64 i, .int .i32 s, .int .i32 t] w fun e w' => e = .returned (.tuple #[]) ∧ w' = (w.setCell ⟨gc, i * 7 + 4, none⟩ (.int .i32 s)).setCell ⟨gc, i * 7 + 5, none⟩ (.int .i32 t) := by
  have hi' : (i : Int) < (n : Int) := by omega
  go_enter Try.func10, Try.ntmps10
  go_wp2
  go_end0
  exact ⟨rfl, rfl⟩

theorem set10 (gf gc n gk m i : Nat) (SE TE : Nat → Nat) (w : World) (hi : i < n) (hn : n ≤ 65536) (hne : gc ≠ gf) (hf : FileAt w gf gc n gk m) (hc : Closes w gc n SE TE i) :
    Calls Try.prog 10 #[.pointer (some ⟨gf, 0, none⟩), .int .i64 i, .int .i32 (SE i : Int), .int .i32 (TE i : Int)] w fun e w' => e = .returned (.tuple #[]) ∧ Closes w' gc n SE TE (i + 1) ∧ Only gc w w' := by
  obtain ⟨cs, ha, hl, hcs⟩ := hc
  have c0 : w.cell? ⟨gf, 0, none⟩ = some (.slice (some ⟨gc, 0, none⟩) n n) := Arr.cell hf 0
  obtain ⟨u, hu⟩ : ∃ u, cs[i * 7 + 4]? = some u := ⟨_, List.getElem?_eq_getElem (by omega)⟩
  obtain ⟨v, hv⟩ : ∃ v, cs[i * 7 + 5]? = some v := ⟨_, List.getElem?_eq_getElem (by omega)⟩
  refine (set10_cells gf gc n gk m i (SE i) (TE i) u v w hi hn c0 hne ((ha.cell _).trans hu) ((ha.cell _).trans hv) (ha.frozen _) (ha.frozen _)).mono ?_
  rintro e w' ⟨rfl, rfl⟩
  refine ⟨rfl, ⟨(cs.set (i * 7 + 4) (.int .i32 (SE i : Int))).set (i * 7 + 5) (.int .i32 (TE i : Int)), (ha.setCell _ _).setCell _ _, by simpa using hl, fun j hj => ?_⟩, ((Only.refl gc w).setCell _ _).setCell _ _⟩
  by_cases hji : j = i
  · subst hji
    constructor
    · rw [List.getElem?_set_ne (by omega), List.getElem?_set_self (by omega)]
    · rw [List.getElem?_set_self (by simp; omega)]
  · obtain ⟨e1, e2⟩ := hcs j (by omega)
    constructor
    · rw [List.getElem?_set_ne (by omega), List.getElem?_set_ne (by omega)]; exact e1
    · rw [List.getElem?_set_ne (by omega), List.getElem?_set_ne (by omega)]; exact e2

/-! ### start, symbol -/
def st (TE : Nat → Nat) : Nat → Nat
  | 0 => 0
  | i + 1 => TE i

theorem start_zero (p : Value) (w : World) : Calls Try.prog 16 #[p, .int .i64 0] w fun e w' => e = .returned (.int .i32 0) ∧ w' = w := by
  go_enter Try.func16, Try.ntmps16
  go_wp2
  go_ret
  exact ⟨rfl, rfl⟩

theorem start_succ (gf gc n i : Nat) (t : Int) (w : World) (hi : i < n) (hn : n ≤ 65536)
    (h0 : w.cell? ⟨gf, 0, none⟩ = some (.slice (some ⟨gc, 0, none⟩) n n)) (hv : w.cell? ⟨gc, i * 7 + 5, none⟩ = some (.int .i32 t)) :
    Calls Try.prog 16 #[.pointer (some ⟨gf, 0, none⟩), .int .i64 ((i + 1 : Nat) : Int)] w fun e w' => e = .returned (.int .i32 t) ∧ w' = w := by
  have hi' : (i : Int) < (n : Int) := by omega
  have hi0 : (((i + 1 : Nat) : Int) == 0) = false := beq_eq_false_iff_ne.2 (by omega)
  go_enter Try.func16, Try.ntmps16
  go_wp2
  go_ret
  exact ⟨rfl, rfl⟩

theorem start16 (gf gc n gk m i k : Nat) (SE TE : Nat → Nat) (w : World) (hi : i < n) (hik : i ≤ k) (hn : n ≤ 65536) (hf : FileAt w gf gc n gk m) (hc : Closes w gc n SE TE k) :
    Calls Try.prog 16 #[.pointer (some ⟨gf, 0, none⟩), .int .i64 (i : Int)] w fun e w' => e = .returned (.int .i32 (st TE i : Int)) ∧ w' = w := by
  match i, hi, hik with
  | 0, _, _ => exact start_zero _ w
  | i + 1, hi, hik =>
    obtain ⟨cs, ha, hl, hcs⟩ := hc
    exact start_succ gf gc n i (TE i) w (by omega) hn (Arr.cell hf 0) ((ha.cell _).trans (hcs i (by omega)).2)

/-- Where the symbol's bytes begin. (A slice that begins at the end of the array keeps the array's own address.) -/
def symA (gk m s : Nat) : Option Addr := if m = s then some ⟨gk, 0, none⟩ else some ⟨gk, s, none⟩

set_option maxHeartbeats 400000 in
theorem symbol15_cells (gf gc n gk m i : Nat) (s e : Nat) (w : World) (hi : i < n) (hn : n ≤ 65536) (hm : m ≤ 1048576) (hse : s ≤ e) (hem : e ≤ m)
    (h0 : w.cell? ⟨gf, 0, none⟩ = some (.slice (some ⟨gc, 0, none⟩) n n)) (h1 : w.cell? ⟨gf, 1, none⟩ = some (.slice (some ⟨gk, 0, none⟩) m m))
    (hv : w.cell? ⟨gc, i * 7 + 4, none⟩ = some (.int .i32 (e : Int)))
    (hs : ∀ q, Calls Try.prog 16 #[.pointer (some ⟨gf, 0, none⟩), .int .i64 (i : Int)] (w.drewN q) fun e w' => e = .returned (.int .i32 (s : Int)) ∧ w' = w.drewN q) :
    Calls Try.prog 15 #[.pointer (some ⟨gf, 0, none⟩), .int .i64 (i : Int)] w fun r w' => r = .returned (.slice (symA gk m s) (e - s) (m - s)) ∧ ∃ q, w' = w.drewN q := by
  unfold symA
  have hi' : (i : Int) < (n : Int) := by omega
  have hse' : (s : Int) ≤ (e : Int) := by omega
  have hem' : (e : Int) ≤ (m : Int) := by omega
  go_enter Try.func15, Try.ntmps15
  go_wp2
  go_quiet ((go_at_call 16; exact Calls.quiet_of_same (hs _)))
  go_wp2
  all_goals (go_ret; exact ⟨rfl, _, rfl⟩)

theorem symbol15 (gf gc n gk m i k : Nat) (SE TE : Nat → Nat) (w : World) (hi : i < n) (hik : i < k) (hn : n ≤ 65536) (hm : m ≤ 1048576) (hse : st TE i ≤ SE i) (hem : SE i ≤ m) (hf : FileAt w gf gc n gk m) (hc : Closes w gc n SE TE k) :
    Calls Try.prog 15 #[.pointer (some ⟨gf, 0, none⟩), .int .i64 (i : Int)] w fun r w' => r = .returned (.slice (symA gk m (st TE i)) (SE i - st TE i) (m - st TE i)) ∧ ∃ q, w' = w.drewN q := by
  have hs := fun q => start16 gf gc n gk m i k SE TE (w.drewN q) hi (by omega) hn hf hc
  obtain ⟨cs, ha, hl, hcs⟩ := hc
  exact symbol15_cells gf gc n gk m i (st TE i) (SE i) w hi hn hm hse hem (Arr.cell hf 0) (Arr.cell hf 1) ((ha.cell _).trans (hcs i hik).1) hs

set_option maxHeartbeats 400000 in
theorem symbol12 (gf gc n gk m i k : Nat) (SE TE : Nat → Nat) (w : World) (hi : i < n) (hik : i < k) (hn : n ≤ 65536) (hm : m ≤ 1048576) (hse : st TE i ≤ SE i) (hem : SE i ≤ m) (hf : FileAt w gf gc n gk m) (hc : Closes w gc n SE TE k) :
    Calls Try.prog 12 #[.pointer (some ⟨gf, 0, none⟩), .int .i64 (i : Int)] w fun r w' => r = .returned (.slice (symA gk m (st TE i)) (SE i - st TE i) (m - st TE i)) ∧ ∃ q, w' = w.drewN q := by
  have hs := symbol15 gf gc n gk m i k SE TE w hi hik hn hm hse hem hf hc
  clear hf hc hse hem
  go_enter Try.func12, Try.ntmps12
  go_wp2_with fail
  refine hs.mono ?_
  rintro e w' ⟨rfl, q, rfl⟩
  go_wp2
  go_ret
  exact ⟨rfl, q, rfl⟩

/-- Bytes as the cells of a []byte. -/
def B (l : List UInt8) : List Value := l.map fun c => .int .u8 (c.toNat : Int)

/-- The symbol's slice leads to the bytes of s, where those lie in kept. -/
theorem bsrc_sym {w : World} {gk m p : Nat} {K : List UInt8} {s : ByteArray} (ha : Arr 5 w gk (B K)) (hp : p + s.size ≤ m) (hs : ∀ j, (h : j < s.size) → K[p + j]? = some (s[j]'h)) : BSrc w (symA gk m p) s := by
  by_cases h0 : s.size = 0
  · exact .inl h0
  · refine .inr ⟨gk, p, if_neg (by omega), fun j hj => ?_⟩
    rw [ha.cell, B, List.getElem?_map, hs j hj]
    rfl
end Go.Proofs.Qxb6604621a
