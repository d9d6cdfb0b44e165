import Derived.Test.Qxb6603130aShelf
import Derived.Test.Qxb6603130aUGuards
import Derived.Lib.OwnBridge
namespace Go.Proofs.Qxb6603130a
open Go.RowKit

/-- All indices of all sets, one behind the other. -/
def cat (Is : List Sl) : List Int := (Is.map (fun x => x.2.2)).flatten

theorem cat_length (Is : List Sl) : (cat Is).length = total Is := by
  unfold cat total
  rw [List.length_flatten, List.map_map]
  rfl

theorem cat_take {Is : List Sl} {k : Nat} {x : Sl} (hx : Is[k]? = some x) : cat (Is.take (k + 1)) = cat (Is.take k) ++ x.2.2 := by
  unfold cat
  rw [List.take_add_one, hx]
  simp

theorem mem_cat {Is : List Sl} {v : Int} : v ∈ cat Is ↔ ∃ x ∈ Is, v ∈ x.2.2 := by
  unfold cat
  simp only [List.mem_flatten, List.mem_map]
  constructor
  · rintro ⟨l, ⟨x, hx, rfl⟩, hv⟩
    exact ⟨x, hx, hv⟩
  · rintro ⟨x, hx, hv⟩
    exact ⟨_, ⟨x, hx, rfl⟩, hv⟩

theorem compactUpTo_laws (d : Array Int) (hs : ∀ i j, i ≤ j → j < d.size → d[i]! ≤ d[j]!) (m : Nat) (hm : m ≤ d.size) :
    (∀ x, x ∈ Lib.compactUpTo d m ↔ ∃ j, j < m ∧ d[j]! = x) ∧ (Lib.compactUpTo d m).Pairwise (· < ·) := by
  induction m with
  | zero => simp [Lib.compactUpTo]
  | succ m ih =>
    obtain ⟨h1, h2⟩ := ih (by omega)
    rw [Lib.compactUpTo_succ]
    by_cases hk : Lib.keeps d m = true
    · rw [if_pos hk]
      constructor
      · intro x
        rw [List.mem_append, h1, List.mem_singleton]
        constructor
        · rintro (⟨j, hj, rfl⟩ | rfl)
          · exact ⟨j, by omega, rfl⟩
          · exact ⟨m, by omega, rfl⟩
        · rintro ⟨j, hj, rfl⟩
          by_cases e : j = m
          · subst e; exact .inr rfl
          · exact .inl ⟨j, by omega, rfl⟩
      · rw [List.pairwise_append]
        refine ⟨h2, by simp, fun x hx y hy => ?_⟩
        rw [List.mem_singleton] at hy
        subst hy
        obtain ⟨j, hj, rfl⟩ := (h1 x).1 hx
        have a := hs j (m - 1) (by omega) (by omega)
        have b := hs (m - 1) m (by omega) (by omega)
        have c : d[m]! ≠ d[m - 1]! := by
          have := hk
          simp [Lib.keeps] at this
          rcases this with h | h
          · omega
          · exact h
        omega
    · rw [if_neg hk, List.append_nil]
      refine ⟨fun x => ?_, h2⟩
      rw [h1]
      constructor
      · rintro ⟨j, hj, rfl⟩
        exact ⟨j, by omega, rfl⟩
      · rintro ⟨j, hj, rfl⟩
        by_cases e : j = m
        · subst e
          have := hk
          simp [Lib.keeps] at this
          exact ⟨j - 1, by omega, this.2.symm⟩
        · exact ⟨j, by omega, rfl⟩

/-- What the sort and the compaction leave. -/
def tidy (l : List Int) : List Int := Lib.compact (l.mergeSort fun x y => decide (x ≤ y))

theorem tidy_laws (l : List Int) : (∀ x, x ∈ tidy l ↔ x ∈ l) ∧ (tidy l).Pairwise (· < ·) := by
  have hp : (l.mergeSort fun x y => decide (x ≤ y)).Pairwise (fun x y => decide (x ≤ y) = true) := List.pairwise_mergeSort (by simp; omega) (by simp; omega) l
  have hmem : ∀ x, x ∈ l.mergeSort (fun x y => decide (x ≤ y)) ↔ x ∈ l := fun x => List.mem_mergeSort
  unfold tidy
  generalize l.mergeSort (fun x y => decide (x ≤ y)) = s at *
  have hget : ∀ j (h : j < s.length), s.toArray[j]! = s[j] := fun j h => by simp [getElem!_pos, h]
  obtain ⟨h1, h2⟩ := compactUpTo_laws s.toArray (fun i j hij hj => by
    have hj' : j < s.length := by simpa using hj
    rw [hget i (by omega), hget j hj']
    by_cases e : i = j
    · subst e; exact Int.le_refl _
    · have := List.pairwise_iff_getElem.1 hp i j (by omega) hj' (by omega)
      simpa using this) s.length (by simp)
  refine ⟨fun x => ?_, h2⟩
  show x ∈ Lib.compactUpTo s.toArray s.length ↔ x ∈ l
  rw [h1, ← hmem]
  constructor
  · rintro ⟨j, hj, rfl⟩
    rw [hget j hj]
    exact List.getElem_mem hj
  · intro hx
    obtain ⟨j, hj, e⟩ := List.getElem_of_mem hx
    exact ⟨j, hj, by rw [hget j hj, e]⟩

/-- The members below n, in order. -/
def below (f : Nat → Bool) (n : Nat) : List Int := ((List.range n).filter f).map Int.ofNat

theorem eq_of_lt_of_mem : ∀ {l m : List Int}, l.Pairwise (· < ·) → m.Pairwise (· < ·) → (∀ x, x ∈ l ↔ x ∈ m) → l = m
  | [], [], _, _, _ => rfl
  | [], b :: m, _, _, h => absurd ((h b).2 (by simp)) (by simp)
  | a :: l, [], _, _, h => absurd ((h a).1 (by simp)) (by simp)
  | a :: l, b :: m, hl, hm, h => by
    rw [List.pairwise_cons] at hl hm
    have e : a = b := by
      rcases List.mem_cons.1 ((h a).1 (by simp)) with e | ha
      · exact e
      · rcases List.mem_cons.1 ((h b).2 (by simp)) with e | hb
        · exact e.symm
        · have := hl.1 b hb
          have := hm.1 a ha
          omega
    subst e
    rw [eq_of_lt_of_mem hl.2 hm.2 (fun x => ?_)]
    constructor
    · intro hx
      rcases List.mem_cons.1 ((h x).1 (List.mem_cons_of_mem _ hx)) with e | h'
      · subst e; have := hl.1 x hx; omega
      · exact h'
    · intro hx
      rcases List.mem_cons.1 ((h x).2 (List.mem_cons_of_mem _ hx)) with e | h'
      · subst e; have := hm.1 x hx; omega
      · exact h'

theorem tidy_below {l : List Int} {f : Nat → Bool} {n : Nat} (hr : ∀ v ∈ l, 0 ≤ v ∧ v < (n : Int)) (hf : ∀ i, i < n → f i = decide ((i : Int) ∈ l)) : tidy l = below f n := by
  obtain ⟨h1, h2⟩ := tidy_laws l
  refine eq_of_lt_of_mem h2 ?_ (fun x => ?_)
  · unfold below
    rw [List.pairwise_map]
    exact (List.pairwise_lt_range.filter _).imp (fun h => by simpa using h)
  · rw [h1]
    unfold below
    simp only [List.mem_map, List.mem_filter, List.mem_range]
    constructor
    · intro hx
      obtain ⟨a, b⟩ := hr x hx
      exact ⟨x.toNat, ⟨by omega, by rw [hf _ (by omega), Int.toNat_of_nonneg a]; simpa using hx⟩, by simp; omega⟩
    · rintro ⟨i, ⟨hi, hfi⟩, rfl⟩
      rw [hf i hi] at hfi
      simpa using hfi

theorem below_grow (w : World) (os : Array Obj) : Below w.heap.size w (Go.Sort.grow w os) :=
  ⟨rfl, rfl, rfl, by simp [Go.Sort.grow], fun k hk => by simp [Go.Sort.grow, Array.getElem?_append_left hk]⟩
end Go.Proofs.Qxb6603130a
