import Derived.Test.Qxb6603130aULists
import Derived.Test.Qxb6603130aZZUnion2
namespace Go.Proofs.Qxb6603130a
open Go.RowKit

theorem Try.info4 : (Try.prog.info? 4).map (fun i => (i.zero, i.size, i.bytes)) = some (some (.bool false), 1, 1) := by kernel_rfl

/-- A row of marks. -/
def Mark (w : World) (g n : Nat) (f : Nat → Bool) : Prop := w.heap[g]? = some (.cells ((List.range n).map (fun i => Value.bool (f i))).toArray 4 (0, 0))

theorem Mark.cell {w : World} {g n : Nat} {f : Nat → Bool} (h : Mark w g n f) {i : Nat} (hi : i < n) : w.cell? ⟨g, i, none⟩ = some (.bool (f i)) := by
  unfold Mark at h
  simp [World.cell?, h, hi]

theorem Mark.free {w : World} {g n : Nat} {f : Nat → Bool} (h : Mark w g n f) (i : Nat) : w.frozen? ⟨g, i, none⟩ = false := by
  unfold Mark at h
  simp [World.frozen?, h]

theorem Mark.lt {w : World} {g n : Nat} {f : Nat → Bool} (h : Mark w g n f) : g < w.heap.size := (Array.getElem?_eq_some_iff.1 h).1

theorem Mark.congr {w : World} {g n : Nat} {f f' : Nat → Bool} (h : Mark w g n f) (he : ∀ i, i < n → f i = f' i) : Mark w g n f' := by
  unfold Mark at *
  rw [h]
  congr 3
  apply List.map_congr_left
  intro i hi
  rw [he i (List.mem_range.1 hi)]

theorem Mark.grow {w w' : World} {g n : Nat} {f : Nat → Bool} (h : Mark w g n f) (hb : Below w.heap.size w w') : Mark w' g n f := (hb.block g h.lt).trans h

theorem Mark.set {w : World} {g n : Nat} {f : Nat → Bool} (h : Mark w g n f) (i : Nat) : Mark (w.setCell ⟨g, i, none⟩ (.bool true)) g n (fun j => f j || decide (j = i)) := by
  unfold Mark at *
  simp only [World.setCell, Array.getElem?_modify, if_true]
  rw [h]
  simp only [Option.map_some, List.setIfInBounds_toArray]
  congr 3
  rw [if_neg (by simp)]
  congr 1
  apply List.ext_getElem
  · simp
  · intro k h1 h2
    rw [List.getElem_set]
    by_cases e : i = k
    · subst e; simp
    · have : ¬ k = i := fun q => e q.symm
      simp [e, this]

theorem mark_made (w : World) (n : Nat) : Mark (w.alloc (.cells (madeCells #[.bool false] n) 4)) w.heap.size n (fun _ => false) := by
  unfold Mark
  have e : madeCells #[Value.bool false] n = ((List.range n).map (fun _ => Value.bool false)).toArray := by
    rw [← Array.toList_inj, toList_madeCells_one]
    apply List.ext_getElem <;> simp
  rw [← e]
  exact (MapKept.heap_alloc w _).1

theorem mark_bits {w : World} {g n q : Nat} {f : Nat → Bool} {ys : List Int} (h : Mark w g n (fun i => f i || (decide (i < q) && bitOf ys i))) (hq : bitOf ys q = false) : Mark w g n (fun i => f i || (decide (i < q + 1) && bitOf ys i)) :=
  h.congr (fun i _ => by
    congr 1
    by_cases e : i = q
    · subst e; simp [hq]
    · have : (i < q + 1) ↔ (i < q) := by omega
      simp [this])

theorem mark_bits_set {w : World} {g n q : Nat} {f : Nat → Bool} {ys : List Int} (h : Mark w g n (fun i => f i || (decide (i < q) && bitOf ys i))) (hq : bitOf ys q = true) : Mark (w.setCell ⟨g, q, none⟩ (.bool true)) g n (fun i => f i || (decide (i < q + 1) && bitOf ys i)) :=
  (h.set q).congr (fun i _ => by
    rw [Bool.or_assoc]
    congr 1
    by_cases e : i = q
    · subst e; simp [hq]
    · have : (i < q + 1) ↔ (i < q) := by omega
      simp [this, e])

theorem mark_ids_set {w : World} {g n q xn : Nat} {f : Nat → Bool} {xs : List Int} (h : Mark w g n (fun i => f i || decide ((i : Int) ∈ xs.take q))) (hx : xs[q]? = some (xn : Int)) : Mark (w.setCell ⟨g, xn, none⟩ (.bool true)) g n (fun i => f i || decide ((i : Int) ∈ xs.take (q + 1))) :=
  (h.set xn).congr (fun i _ => by
    rw [Bool.or_assoc, List.take_add_one, hx]
    congr 1
    rw [Bool.eq_iff_iff]
    simp only [Bool.or_eq_true, decide_eq_true_eq, Option.toList, List.mem_append, List.mem_cons, List.not_mem_nil, or_false]
    constructor
    · rintro (h | h)
      · exact .inl h
      · right; omega
    · rintro (h | h)
      · exact .inl h
      · right; omega)

/-- How many are marked below k. -/
def cnt (f : Nat → Bool) (k : Nat) : Nat := ((List.range k).filter f).length

theorem cnt_yes {f : Nat → Bool} {k : Nat} (h : f k = true) : cnt f (k + 1) = cnt f k + 1 := by
  unfold cnt
  rw [List.range_succ, List.filter_append, List.length_append]
  simp [h]

theorem cnt_no {f : Nat → Bool} {k : Nat} (h : f k = false) : cnt f (k + 1) = cnt f k := by
  unfold cnt
  rw [List.range_succ, List.filter_append, List.length_append]
  simp [h]

theorem cnt_le (f : Nat → Bool) (k : Nat) : cnt f k ≤ k := by
  have := List.length_filter_le f (List.range k)
  simpa [cnt] using this

theorem below_length (f : Nat → Bool) (n : Nat) : (below f n).length = cnt f n := by simp [below, cnt]

theorem below_get {f : Nat → Bool} {n j : Nat} {v : Int} (h : (below f n)[j]? = some v) : ∃ i : Nat, v = (i : Int) ∧ i < n ∧ f i = true := by
  have := List.mem_of_getElem? h
  unfold below at this
  simp only [List.mem_map, List.mem_filter, List.mem_range] at this
  obtain ⟨i, ⟨h1, h2⟩, rfl⟩ := this
  exact ⟨i, rfl, h1, h2⟩

theorem below_lt {f : Nat → Bool} {n j : Nat} {u v : Int} (hu : (below f n)[j]? = some u) (hv : (below f n)[j + 1]? = some v) : u < v := by
  have hp : (below f n).Pairwise (· < ·) := by
    unfold below
    rw [List.pairwise_map]
    exact (List.pairwise_lt_range.filter _).imp (fun h => by simpa using h)
  obtain ⟨h1, rfl⟩ := List.getElem?_eq_some_iff.1 hu
  obtain ⟨h2, rfl⟩ := List.getElem?_eq_some_iff.1 hv
  exact List.pairwise_iff_getElem.1 hp j (j + 1) h1 h2 (by omega)

/-- Has one of the first k sets bits? -/
def anyB (Ts : List Sl) (k : Nat) : Bool := (Ts.take k).any (fun y => y.1.isSome)

theorem anyB_succ {Ts : List Sl} {k : Nat} {y : Sl} (hy : Ts[k]? = some y) : anyB Ts (k + 1) = (anyB Ts k || y.1.isSome) := by
  unfold anyB
  rw [List.take_add_one, hy]
  simp

theorem anyB_all {Ts : List Sl} {k : Nat} (hk : Ts.length ≤ k) : anyB Ts k = false ↔ ∀ y ∈ Ts, y.1 = none := by
  unfold anyB
  rw [List.take_of_length_le hk, List.any_eq_false]
  constructor
  · intro h y hy
    have := h y hy
    simpa using this
  · intro h y hy
    simp [h y hy]

theorem memTo_all {Js Ts : List Sl} (hl : Js.length = Ts.length) (hn : ∀ y ∈ Ts, y.1 = none) (i : Nat) : memTo Js Ts Js.length i = decide ((i : Int) ∈ cat Js) := by
  unfold memTo
  rw [List.take_of_length_le (by simp; omega), Bool.eq_iff_iff, List.any_eq_true, decide_eq_true_eq, mem_cat]
  constructor
  · rintro ⟨⟨x, y⟩, hm, h⟩
    have := hn y (List.of_mem_zip hm).2
    refine ⟨x, (List.of_mem_zip hm).1, ?_⟩
    simpa [mem1, this] using h
  · rintro ⟨x, hx, h⟩
    obtain ⟨j, hj, rfl⟩ := List.getElem_of_mem hx
    have hj2 : j < Ts.length := by omega
    refine ⟨(Js[j], Ts[j]), ?_, ?_⟩
    · have : j < (Js.zip Ts).length := by simp; omega
      have e : (Js.zip Ts)[j] = (Js[j], Ts[j]) := by simp
      rw [← e]
      exact List.getElem_mem this
    · have := hn Ts[j] (List.getElem_mem hj2)
      simpa [mem1, this] using h

theorem memTo_high {Js Ts : List Sl} {n i k : Nat} (hok : UnionOk Js Ts n) (h1 : n ≤ i) (h2 : i < 64 * ((n + 63) / 64)) : memTo Js Ts k i = false := by
  unfold memTo
  rw [List.any_eq_false]
  rintro ⟨x, y⟩ hm
  have hm := List.mem_of_mem_take hm
  obtain ⟨j, hj, e⟩ := List.getElem_of_mem hm
  have e2 : (Js.zip Ts)[j]? = some (x, y) := by rw [List.getElem?_eq_getElem hj, e]
  rw [List.getElem?_zip_eq_some] at e2
  obtain ⟨o1, o2⟩ := hok j x y e2.1 e2.2
  by_cases q : y.1 = none
  · have : ¬ ((i : Int) ∈ x.2.2) := fun h => by have := o1 q _ h; omega
    simp [mem1, q, this]
  · have hb := (o2 q).2 i h1 h2
    have : y.1.isNone = false := by cases hy : y.1 <;> simp_all
    simp [mem1, this, hb]

/-- Behind the copies. -/
structure Ready3 (w w3 : World) (a0 a1 : Option Addr) (Js Ts : List Sl) (m : Nat) : Prop where
  hands : Hands w3 a0 a1 Js Ts
  len : Js.length = m
  words : ∀ x ∈ Ts, Words x.2.2
  tot : total Js ≤ 131072
  totS : total Ts ≤ 131072
  below : Below w.heap.size w w3

theorem ready3 {w w2 w3 : World} {q : Nat} {a0 a1 a0' a1' : Option Addr} {c0 c1 : Nat} {Is Ss Js Ts : List Sl} (hA : UArgs w a0 c0 Is a1 c1 Ss) (hlen : Is.length = Ss.length) (hI : total Is ≤ 131072) (hS : total Ss ≤ 131072)
    (lj : LCopy .i64 (w.drewN q) w2 Is Js a0') (lt : LCopy .u64 w2 w3 Ss Ts a1') : Ready3 w w3 a0' a1' Js Ts Is.length := by
  have s1 := lj.below.size
  have e0 : (w.drewN q).heap.size = w.heap.size := rfl
  refine ⟨⟨?_, lj.row.below lt.below, lt.row, fun x hx => (lj.has x hx).below lt.below, lt.has, fun x hx => ?_, fun x hx => ?_⟩, lj.len, fun x hx => ?_, ?_, ?_, ?_⟩
  · rw [lj.len, lt.len, hlen]
  · obtain ⟨y, _, h⟩ := twins_mem lj.len lj.same hx
    exact h.2.2
  · obtain ⟨y, _, h⟩ := twins_mem lt.len lt.same hx
    exact h.2.2
  · obtain ⟨y, hy, h⟩ := twins_mem lt.len lt.same hx
    rw [h.1]
    exact hA.words y hy
  · rw [twins_total lj.len lj.same]; exact hI
  · rw [twins_total lt.len lt.same]; exact hS
  · exact (below_dr (Below.refl _ w) q).trans (lj.below.trans (lt.below.mono (by omega)))

theorem clone13' (m : Nat) (a : Option Addr) (c : Nat) (Is : List Sl) (w : World) (hm : Is.length = m) (hl : Is.length ≤ 131072) (ht : total Is ≤ 131072) (hc : Has w a (Is.map sI)) (hI : ∀ x ∈ Is, Has w x.1 (x.2.2.map (.int .i64))) (hn : ∀ x ∈ Is, x.1 = none → x.2.1 = 0 ∧ x.2.2 = []) (h0 : a = none → c = 0 ∧ Is = []) :
    Calls Try.prog 13 #[.slice a Is.length c] w fun e w' => ∃ a' c' Js, e = .returned (.slice a' m c') ∧ LCopy .i64 w w' Is Js a' := by
  subst hm
  exact clone13 a c Is w hl ht hc hI hn h0

theorem clone14' (m : Nat) (a : Option Addr) (c : Nat) (Is : List Sl) (w : World) (hm : Is.length = m) (hl : Is.length ≤ 131072) (ht : total Is ≤ 131072) (hc : Has w a (Is.map sI)) (hI : ∀ x ∈ Is, Has w x.1 (x.2.2.map (.int .u64))) (hn : ∀ x ∈ Is, x.1 = none → x.2.1 = 0 ∧ x.2.2 = []) (h0 : a = none → c = 0 ∧ Is = []) :
    Calls Try.prog 14 #[.slice a Is.length c] w fun e w' => ∃ a' c' Js, e = .returned (.slice a' m c') ∧ LCopy .u64 w w' Is Js a' := by
  subst hm
  exact clone14 a c Is w hl ht hc hI hn h0

theorem wf12' (a0 : Option Addr) (c0 : Nat) (Is : List Sl) (a1 : Option Addr) (c1 : Nat) (Ss : List Sl) (n : Nat) (w : World) (hA : UArgs w a0 c0 Is a1 c1 Ss) (hn : n ≤ 65536) (hlen : Is.length = Ss.length) (hm : Is.length ≤ 131072) (hI : total Is ≤ 131072) (hS : total Ss ≤ 131072) :
    Calls Try.prog 12 #[.slice a0 Is.length c0, .slice a1 Ss.length c1, .int .i64 n] w (GuardsD w (UnionOk Is Ss n)) := by
  have h := wf12 a0 c0 Is a1 c1 Ss n w hA hn hlen hm hI hS
  rw [← hlen]
  exact h
end Go.Proofs.Qxb6603130a
