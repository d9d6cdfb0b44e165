import Derived.Test.Qxb6603130aKeep
import Derived.RegionTactic
import Derived.BigRegion
namespace Go.Proofs.Qxb6603130a
open Go.RowKit

/-- A slice of numbers: where it lies, its capacity, its numbers. -/
abbrev Sl := Option Addr × Nat × List Int
def sI (x : Sl) : Value := .slice x.1 x.2.2.length x.2.1

/-- The sets as they lie: two cells a set. -/
structure Sets (w : World) (g : Nat) (Is Ss : List Sl) : Prop where
  len : Is.length = Ss.length
  ids : ∀ (k : Nat) (x : Sl), Is[k]? = some x → w.cell? ⟨g, k * 2, none⟩ = some (sI x)
  set : ∀ (k : Nat) (x : Sl), Ss[k]? = some x → w.cell? ⟨g, k * 2 + 1, none⟩ = some (sI x)
  lt : g < w.heap.size
  hI : ∀ x ∈ Is, Has w x.1 (x.2.2.map (.int .i64))
  hS : ∀ x ∈ Ss, Has w x.1 (x.2.2.map (.int .u64))
  nI : ∀ x ∈ Is, x.1 = none → x.2.1 = 0 ∧ x.2.2 = []
  nS : ∀ x ∈ Ss, x.1 = none → x.2.1 = 0 ∧ x.2.2 = []

/-- A row of words. -/
def RowU (w : World) (g : Nat) (l : List Int) : Prop := w.heap[g]? = some (.cells (l.map (Value.int .u64)).toArray 62 (0, 0))

def total (Is : List Sl) : Nat := (Is.map (fun x => x.2.2.length)).sum

theorem or_range {a b : Int} (ha0 : 0 ≤ a) (ha1 : a < 18446744073709551616) (hb0 : 0 ≤ b) (hb1 : b < 18446744073709551616) : 0 ≤ bits .or .u64 a b ∧ bits .or .u64 a b < 18446744073709551616 := by
  rw [u64_or a b ha0 ha1 hb0 hb1]
  have h : a.toNat ||| b.toNat < 2 ^ 64 := Nat.or_lt_two_pow (by omega) (by omega)
  omega

theorem or_bit {a b : Int} (ha0 : 0 ≤ a) (ha1 : a < 18446744073709551616) (hb0 : 0 ≤ b) (hb1 : b < 18446744073709551616) (k : Nat) : bitZ (bits .or .u64 a b) k = (bitZ a k || bitZ b k) := by
  rw [u64_or a b ha0 ha1 hb0 hb1]
  unfold bitZ
  rw [Int.toNat_natCast, Nat.testBit_or]

theorem bitOf_set {L : List Int} {q : Nat} (hq : q < L.length) (v : Int) (i : Nat) : bitOf (L.set q v) i = if i / 64 = q then bitZ v (i % 64) else bitOf L i := by
  unfold bitOf
  by_cases h : i / 64 = q
  · rw [if_pos h, h, List.getD, List.getElem?_set_self hq]
    rfl
  · rw [if_neg h, List.getD, List.getD, List.getElem?_set_ne (by omega)]

theorem RowU.cell {w : World} {g : Nat} {l : List Int} (h : RowU w g l) {k : Nat} (hk : k < l.length) : w.cell? ⟨g, k, none⟩ = some (.int .u64 (l[k]'hk)) := by
  unfold RowU at h
  simp [World.cell?, h, hk]

theorem RowU.free {w : World} {g : Nat} {l : List Int} (h : RowU w g l) (k : Nat) : w.frozen? ⟨g, k, none⟩ = false := by
  unfold RowU at h
  simp [World.frozen?, h]

theorem RowU.lt {w : World} {g : Nat} {l : List Int} (h : RowU w g l) : g < w.heap.size := (Array.getElem?_eq_some_iff.1 h).1

theorem RowU.store {w : World} {g : Nat} {l : List Int} (h : RowU w g l) (k : Nat) (v : Int) : RowU (w.setCell ⟨g, k, none⟩ (.int .u64 v)) g (l.set k v) := by
  unfold RowU at *
  simp only [World.setCell, Array.getElem?_modify, if_true]
  rw [h]
  simp [List.map_set]

/-- Is i in the set that lies so? -/
def mem1 (x y : Sl) (i : Nat) : Bool := if y.1.isNone then decide ((i : Int) ∈ x.2.2) else bitOf y.2.2 i
/-- .. in one of the first k. -/
def memTo (Is Ss : List Sl) (k i : Nat) : Bool := ((Is.zip Ss).take k).any (fun p => mem1 p.1 p.2 i)

theorem memTo_succ {Is Ss : List Sl} {k : Nat} {x y : Sl} (hx : Is[k]? = some x) (hy : Ss[k]? = some y) (i : Nat) : memTo Is Ss (k + 1) i = (memTo Is Ss k i || mem1 x y i) := by
  unfold memTo
  have e : (Is.zip Ss)[k]? = some (x, y) := by rw [List.getElem?_zip_eq_some]; exact ⟨hx, hy⟩
  rw [List.take_add_one, e]
  simp

/-- The row of words holds just the members of the first k sets. -/
structure Holds (w : World) (gs W : Nat) (f : Nat → Bool) (L : List Int) : Prop where
  row : RowU w gs L
  len : L.length = W
  words : Words L
  bit : ∀ i, i < 64 * W → bitOf L i = f i

theorem Holds.congr {w : World} {gs W : Nat} {f f' : Nat → Bool} {L : List Int} (h : Holds w gs W f L) (he : ∀ i, i < 64 * W → f i = f' i) : Holds w gs W f' L :=
  ⟨h.row, h.len, h.words, fun i hi => (h.bit i hi).trans (he i hi)⟩

theorem Holds.or {w : World} {gs W : Nat} {f : Nat → Bool} {L : List Int} (h : Holds w gs W f L) (q : Nat) (hq : q < L.length) (z : Int) (hz0 : 0 ≤ z) (hz1 : z < 18446744073709551616) :
    Holds (w.setCell ⟨gs, q, none⟩ (.int .u64 (bits .or .u64 (L[q]'hq) z))) gs W (fun i => f i || (decide (i / 64 = q) && bitZ z (i % 64))) (L.set q (bits .or .u64 (L[q]'hq) z)) := by
  obtain ⟨ha0, ha1⟩ := h.words _ (List.getElem_mem hq)
  refine ⟨h.row.store q _, by simp [h.len], fun v hv => ?_, fun i hi => ?_⟩
  · rcases List.mem_or_eq_of_mem_set hv with hv | rfl
    · exact h.words v hv
    · exact or_range ha0 ha1 hz0 hz1
  · rw [bitOf_set hq]
    by_cases e : i / 64 = q
    · rw [if_pos e, or_bit ha0 ha1 hz0 hz1]
      have : bitZ (L[q]'hq) (i % 64) = bitOf L i := by unfold bitOf; rw [e, List.getD, List.getElem?_eq_getElem hq]; rfl
      rw [this, h.bit i hi]
      simp [e]
    · rw [if_neg e, h.bit i hi]
      simp [e]

theorem holds_made (w : World) (W : Nat) : Holds (w.alloc (.cells (madeCells #[.int .u64 0] W) 62)) w.heap.size W (fun _ => false) (List.replicate W 0) := by
  refine ⟨?_, by simp, fun z hz => ?_, fun i hi => ?_⟩
  · unfold RowU
    have e : madeCells #[Value.int .u64 0] W = ((List.replicate W (0 : Int)).map (Value.int .u64)).toArray := by
      rw [← Array.toList_inj, toList_madeCells_one]; simp
    rw [← e]
    exact (MapKept.heap_alloc w _).1
  · rw [(List.mem_replicate.1 hz).2]; omega
  · unfold bitOf
    rw [List.getD, List.getElem?_replicate]
    split <;> simp [bitZ]

theorem make62_run (n : Nat) (hn : n ≤ 65536) (w : World) :
    (Instr.makeSlice 29 (.int .i64 (((n : Int) + 63) / 64)) (.int .i64 (((n : Int) + 63) / 64))).run Try.prog w = .ok (.slice (some ⟨w.heap.size, 0, none⟩) ((n + 63) / 64) ((n + 63) / 64)) (w.alloc (.cells (madeCells #[.int .u64 0] ((n + 63) / 64)) 62)) := by
  have h := make_run 29 62 (.int .u64 0) 8 Try.underlying29 Try.info62 rfl ((n + 63) / 64) (by omega) (by omega) w
  simpa using h

theorem bit_pow {k i : Nat} (hk : k < 64) : bitZ (IntKind.u64.wrap (2 ^ k)) i = decide (k = i) := by
  rw [wrap_pow k hk]
  unfold bitZ
  rw [Int.toNat_natCast, Nat.testBit_two_pow]

theorem total_take {Is : List Sl} {k : Nat} {x : Sl} (hx : Is[k]? = some x) : total (Is.take (k + 1)) = total (Is.take k) + x.2.2.length := by
  unfold total
  rw [List.take_add_one, hx]
  simp

theorem total_le (k : Nat) (Is : List Sl) : total (Is.take k) ≤ total Is := by
  have e : total Is = total (Is.take k) + total (Is.drop k) := by
    unfold total
    rw [← List.sum_append, ← List.map_append, List.take_append_drop]
  omega

end Go.Proofs.Qxb6603130a
