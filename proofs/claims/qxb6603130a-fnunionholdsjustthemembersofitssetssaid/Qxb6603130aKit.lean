import Derived.Test.Qxb6603130aRows
import Derived.WalkKit
import Derived.WalkSpells
namespace Go.Proofs.Qxb6603130a
open Go.RowKit

theorem Try.info9 : (Try.prog.info? 9).map (fun i => (i.zero, i.size, i.bytes)) = some (some (.string ByteArray.empty), 1, 16) := by kernel_rfl
theorem Try.info5 : (Try.prog.info? 5).map (fun i => (i.zero, i.size, i.bytes)) = some (some (.int .u8 0), 1, 1) := by kernel_rfl
theorem Try.info3 : (Try.prog.info? 3).map (fun i => (i.zero, i.size, i.bytes)) = some (some (.int .i64 0), 1, 8) := by kernel_rfl
theorem Try.info62 : (Try.prog.info? 62).map (fun i => (i.zero, i.size, i.bytes)) = some (some (.int .u64 0), 1, 8) := by kernel_rfl
theorem Try.info41 : (Try.prog.info? 41).map (fun i => (i.zero, i.size, i.bytes)) = some (some (.slice none 0 0), 1, 24) := by kernel_rfl
theorem Try.info28 : (Try.prog.info? 28).map (fun i => (i.zero, i.size, i.bytes)) = some (some (.slice none 0 0), 1, 24) := by kernel_rfl
theorem Try.info29 : (Try.prog.info? 29).map (fun i => (i.zero, i.size, i.bytes)) = some (some (.slice none 0 0), 1, 24) := by kernel_rfl

/-- The slice's elements, as cells of the world. -/
def Has (w : World) (a : Option Addr) (xs : List Value) : Prop := ∀ j, j < xs.length → ∃ b off, a = some ⟨b, off, none⟩ ∧ b < w.heap.size ∧ w.cell? ⟨b, off + j, none⟩ = xs[j]?

theorem Has.below {w w' : World} {a : Option Addr} {xs : List Value} (h : Has w a xs) (hb : Below w.heap.size w w') : Has w' a xs := by
  intro j hj
  obtain ⟨b, off, e, hlt, hc⟩ := h j hj
  exact ⟨b, off, e, Nat.lt_of_lt_of_le hlt hb.size, (hb.cell hlt).trans hc⟩

/-- A new row, its first k elements copied. -/
def part (z : Value) (xs : List Value) (k : Nat) : Array Value := (xs.take k ++ List.replicate (xs.length - k) z).toArray

theorem part_zero (z : Value) (xs : List Value) : madeCells #[z] xs.length = part z xs 0 := by
  rw [← Array.toList_inj, toList_madeCells_one]; simp [part]
theorem part_end (z : Value) (xs : List Value) : part z xs xs.length = xs.toArray := by simp [part]
theorem part_set (z : Value) (xs : List Value) (k : Nat) (x : Value) (h : k < xs.length) (hx : xs[k]? = some x) : (part z xs k).setIfInBounds k x = part z xs (k + 1) := by
  obtain ⟨h', rfl⟩ := List.getElem?_eq_some_iff.1 hx
  unfold part
  rw [← Array.toList_inj]
  simp only [Array.toList_setIfInBounds]
  apply List.ext_getElem?
  intro j
  simp only [List.getElem?_set, List.getElem?_append, List.length_take, List.length_append, List.length_replicate, List.getElem?_take, List.getElem?_replicate]
  by_cases h1 : k = j
  · subst h1
    have : min (k+1) xs.length = k + 1 := by omega
    have : min k xs.length = k := by omega
    have : ¬ xs.length - k = 0 := by omega
    simp [*]
  · rw [if_neg h1]
    repeat' split
    all_goals first | rfl | omega | skip
theorem part_size (z : Value) (xs : List Value) (k : Nat) (h : k ≤ xs.length) : (part z xs k).size = xs.length := by simp [part]; omega

theorem make_run (t e : TypeId) (z : Value) (B : Nat) (ht : Try.prog.underlying t = some (.slice e)) (hz : (Try.prog.info? e).map (fun i => (i.zero, i.size, i.bytes)) = some (some z, 1, B)) (hc : z.cells = #[z]) (n : Nat) (hn : n ≤ 1048576) (hB : B ≤ 1048576) (w : World) :
    (Instr.makeSlice t (.int .i64 (n : Int)) (.int .i64 (n : Int))).run Try.prog w = .ok (.slice (some ⟨w.heap.size, 0, none⟩) n n) (w.alloc (.cells (madeCells #[z] n) e)) := by
  obtain ⟨i, hi, h0, h1, h2⟩ := info_parts hz
  have hb : i.bytes * n ≤ 1048576 * 1048576 := by rw [h2]; exact Nat.mul_le_mul hB hn
  have hr := run_make (P := Try.prog) w t e i z ht hi h0 .i64 .i64 n n (by omega) (Int.le_refl _) (by rw [← Int.natCast_mul]; omega) (by omega)
  simp only [Int.toNat_natCast, h1, hc, Nat.mul_one] at hr
  exact hr

/-- What a copy is: new memory, the same elements, nil just where the old one is. -/
structure Copy (w w' : World) (a : Option Addr) (n c : Nat) (xs : List Value) (v : Value) : Prop where
  below : Below w.heap.size w w'
  nil : a = none → v = .slice none 0 0 ∧ w' = w
  some : a ≠ none → v = .slice (some ⟨w.heap.size, 0, none⟩) n n
  row : a ≠ none → ∃ e, w' = w.alloc (.cells xs.toArray e)

end Go.Proofs.Qxb6603130a
