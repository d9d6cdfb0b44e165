import Derived.Test.Qxb6603130aSizes
import Derived.ProofKit
import Derived.ChangeOld
import Derived.SliceStrings
import Derived.Deep.Slices
namespace Go.Proofs.Qxb6603130a
open Go.ChangeShapes Go.WideShapes Go.ChangeAt Go.RowKit

theorem own : ownKnob Try.prog.godebug = none := by kernel_rfl
theorem laidOut : laidOutB Try.prog = true := by kernel_rfl
theorem Try.cells9 : Try.prog.cellsOf 9 = 1 := by kernel_rfl
theorem Try.cells41 : Try.prog.cellsOf 41 = 1 := by kernel_rfl
theorem Try.cells28 : Try.prog.cellsOf 28 = 1 := by kernel_rfl
theorem Try.cells29 : Try.prog.cellsOf 29 = 1 := by kernel_rfl
theorem Try.cells5 : Try.prog.cellsOf 5 = 1 := by kernel_rfl
theorem Try.cells3 : Try.prog.cellsOf 3 = 1 := by kernel_rfl
theorem Try.cells62 : Try.prog.cellsOf 62 = 1 := by kernel_rfl

theorem cell_lt {w : World} {a : Addr} {v : Value} (h : w.cell? a = some v) : a.block < w.heap.size := by
  unfold World.cell? at h
  split at h
  · rename_i he
    exact (Array.getElem?_eq_some_iff.1 he).1
  · cases h

theorem has_of {w : World} {a : Addr} {xs : List Value} (h : ∀ i, i < xs.length → w.cell? (a.add i) = xs[i]?) : Has w (some a) xs := by
  intro j hj
  obtain ⟨b, off, spot⟩ := a
  have h0 := h 0 (by omega)
  rw [List.getElem?_eq_getElem (by omega)] at h0
  have hs : spot = none := by simpa [Addr.add] using World.cell?_spot h0
  subst hs
  have hj' := h j hj
  rw [add_plain] at hj'
  refine ⟨b, off, rfl, ?_, hj'⟩
  rw [List.getElem?_eq_getElem hj] at hj'
  exact cell_lt hj'

section
variable {H : Type} {enc : TypeId × Value → H} {W : World}

/-- A slice of strings that came in. -/
theorem rd_strs {fuel : Nat} {a : Option Addr} {len cap : Nat} {x : DataW H × List MemPlace} (hf : DataW.trod enc Try.prog W 0 (fun _ => true) true fuel 41 [.slice a len cap] = some x) :
    ∃ ss : List ByteArray, ss.length = len ∧ Has W a (ss.map .string) ∧ (∀ s ∈ ss, s.size ≤ maxLen) ∧ len ≤ maxLen ∧ (a = none → cap = 0 ∧ ss = []) := by
  rcases open_strings Try.underlying41 Try.underlying9 Try.cells9 hf with ⟨hcs, _⟩ | ⟨x, l, c, ss, hcs, _, hl, hm, hz, _, hcell, hws⟩
  · simp at hcs
    obtain ⟨rfl, rfl, rfl⟩ := hcs
    exact ⟨[], rfl, fun j hj => absurd hj (by simp), by simp, Nat.zero_le _, fun _ => ⟨rfl, rfl⟩⟩
  · simp at hcs
    obtain ⟨rfl, rfl, rfl⟩ := hcs
    simp at hz
    refine ⟨ss.take len, by simp; omega, has_of (fun i hi => ?_), fun s hs => hws s (List.mem_of_mem_take hs), by omega, fun h => by cases h⟩
    have hi' : i < len := by simp at hi; omega
    rw [hcell i (by omega)]
    simp [hi', List.getElem?_eq_getElem (show i < ss.length by omega)]

/-- A slice of integers that came in. -/
theorem rd_ints {t e : TypeId} {k : IntKind} (ht : Try.prog.underlying t = some (.slice e)) (he : Try.prog.underlying e = some (.int k)) (hc : Try.prog.cellsOf e = 1) {fuel : Nat} {a : Option Addr} {len cap : Nat} {x : DataW H × List MemPlace} (hf : DataW.trod enc Try.prog W 0 (fun _ => true) true fuel t [.slice a len cap] = some x) :
    ∃ zs : List Int, zs.length = len ∧ Has W a (zs.map (.int k)) ∧ (∀ n ∈ zs, (Lit.int k n).wf = true) ∧ len ≤ maxLen ∧ (a = none → cap = 0 ∧ zs = []) := by
  rcases open_ints ht he hc hf with ⟨hcs, _⟩ | ⟨x, l, c, ss, hcs, _, hl, hm, hz, _, hcell, hws⟩
  · simp at hcs
    obtain ⟨rfl, rfl, rfl⟩ := hcs
    exact ⟨[], rfl, fun j hj => absurd hj (by simp), by simp, Nat.zero_le _, fun _ => ⟨rfl, rfl⟩⟩
  · simp at hcs
    obtain ⟨rfl, rfl, rfl⟩ := hcs
    simp at hz
    refine ⟨ss.take len, by simp; omega, has_of (fun i hi => ?_), fun s hs => hws s (List.mem_of_mem_take hs), by omega, fun h => by cases h⟩
    have hi' : i < len := by simp at hi; omega
    rw [hcell i (by omega)]
    simp [hi', List.getElem?_eq_getElem (show i < ss.length by omega)]

/-- A slice of slices that came in, an element's own reading by a law. -/
theorem rd_rows {α : Type} [Inhabited α] {t e : TypeId} (ht : Try.prog.underlying t = some (.slice e)) (hc : Try.prog.cellsOf e = 1) (V : α → Value) (Q : α → Prop)
    (each : ∀ (n : Nat) (v : Value) (x : DataW H × List MemPlace), DataW.trod enc Try.prog W 0 (fun _ => true) true n e [v] = some x → ∃ y, v = V y ∧ Q y)
    {fuel : Nat} {a : Option Addr} {len cap : Nat} {x : DataW H × List MemPlace} (hf : DataW.trod enc Try.prog W 0 (fun _ => true) true fuel t [.slice a len cap] = some x) :
    ∃ vs : List α, vs.length = len ∧ Has W a (vs.map V) ∧ (∀ y ∈ vs, Q y) ∧ len ≤ maxLen ∧ (a = none → cap = 0 ∧ vs = []) := by
  rcases Deep.open_slice1 ht hc hf with ⟨hcs, _⟩ | ⟨x, l, c, m, n, U, D, Pl, hcs, _, hl, hm, hmm, _, hx⟩
  · simp at hcs
    obtain ⟨rfl, rfl, rfl⟩ := hcs
    exact ⟨[], rfl, fun j hj => absurd hj (by simp), by simp, Nat.zero_le _, fun _ => ⟨rfl, rfl⟩⟩
  · simp at hcs
    obtain ⟨rfl, rfl, rfl⟩ := hcs
    simp at hmm
    obtain ⟨f, hfv⟩ := Deep.choose_lt (α := α) (n := len) (p := fun i y => U i = V y ∧ Q y) (fun i hi => each n (U i) _ (hx i (by omega)).2)
    refine ⟨(List.range len).map f, by simp, has_of (fun i hi => ?_), ?_, by omega, fun h => by cases h⟩
    · have hi' : i < len := by simpa using hi
      rw [(hx i (by omega)).1, (hfv i hi').1]
      simp [hi']
    · intro y hy
      obtain ⟨i, hi, rfl⟩ := List.mem_map.1 hy
      exact (hfv i (by simpa using hi)).2

/-- A slice of slices of strings that came in. -/
theorem rd_strss {fuel : Nat} {a : Option Addr} {len cap : Nat} {x : DataW H × List MemPlace} (hf : DataW.trod enc Try.prog W 0 (fun _ => true) true fuel 42 [.slice a len cap] = some x) :
    ∃ vs : List (Option Addr × Nat × List ByteArray), vs.length = len ∧ Has W a (vs.map sv) ∧ (∀ y ∈ vs, Has W y.1 (y.2.2.map .string) ∧ (∀ s ∈ y.2.2, s.size ≤ maxLen) ∧ y.2.2.length ≤ maxLen ∧ (y.1 = none → y.2.1 = 0 ∧ y.2.2 = [])) ∧ len ≤ maxLen ∧ (a = none → cap = 0 ∧ vs = []) := by
  refine rd_rows Try.underlying42 Try.cells41 sv _ ?_ hf
  intro n v x hx
  rcases open_strings Try.underlying41 Try.underlying9 Try.cells9 hx with ⟨hcs, _⟩ | ⟨y, l, c, ss, hcs, _⟩
  · simp only [List.cons.injEq, and_true] at hcs
    subst hcs
    obtain ⟨ss, h1, h2, h3, h4, h5⟩ := rd_strs hx
    exact ⟨(none, 0, ss), by simp [sv, h1], h2, h3, by show ss.length ≤ _; omega, fun h => h5 h⟩
  · simp only [List.cons.injEq, and_true] at hcs
    subst hcs
    obtain ⟨ss, h1, h2, h3, h4, h5⟩ := rd_strs hx
    exact ⟨(some y, c, ss), by simp [sv, h1], h2, h3, by show ss.length ≤ _; omega, fun h => h5 h⟩
end

end Go.Proofs.Qxb6603130a
