import Derived.Test.Qxb6603130aUGuards
namespace Go.Proofs.Qxb6603130a
open Go.RowKit

theorem Has.setCell {w : World} {a : Option Addr} {xs : List Value} (h : Has w a xs) {p : Addr} {u : Value} (hf : ∀ x, a = some x → x.block ≠ p.block) : Has (w.setCell p u) a xs := by
  intro j hj
  obtain ⟨b, off, rfl, hb, hc⟩ := h j hj
  have hbb := hf _ rfl
  simp only at hbb
  refine ⟨b, off, rfl, by simpa [World.setCell] using hb, ?_⟩
  rw [World.cell?_setCell_other _ _ _ _ (by intro q; subst q; exact hbb rfl)]
  exact hc

/-- A copy of one slice has the same numbers and is nil just where it is. -/
def Twin (x y : Sl) : Prop := y.2.2 = x.2.2 ∧ (y.1 = none ↔ x.1 = none) ∧ (y.1 = none → y.2.1 = 0 ∧ y.2.2 = [])

/-- The row of copies, filled up to the length of Js. -/
structure CFill (κ : IntKind) (w wr : World) (g : Nat) (Is Js : List Sl) : Prop where
  same : ∀ (j : Nat) (x y : Sl), Is[j]? = some x → Js[j]? = some y → Twin x y
  cells : ∀ (j : Nat) (y : Sl), Js[j]? = some y → wr.cell? ⟨g, j, none⟩ = some (sI y)
  has : ∀ y ∈ Js, Has wr y.1 (y.2.2.map (.int κ))
  sep : ∀ y ∈ Js, ∀ p, y.1 = some p → p.block ≠ g
  any : ∀ o, o < Is.length → ∃ v, wr.cell? ⟨g, o, none⟩ = some v
  free : ∀ o, wr.frozen? ⟨g, o, none⟩ = false
  below : Below w.heap.size w wr
  ge : w.heap.size ≤ g
  lt : g < wr.heap.size

theorem cfill_made (κ : IntKind) (w : World) (Is : List Sl) (t : TypeId) : CFill κ w (w.alloc (.cells (madeCells #[.slice none 0 0] Is.length) t)) w.heap.size Is [] := by
  refine ⟨fun j x y _ h => by simp at h, fun j y h => by simp at h, fun y h => by simp at h, fun y h => by simp at h, fun o ho => ?_, fun o => ?_, box_below' _ _, Nat.le_refl _, by simp⟩
  · simp only [World.cell?]
    rw [(MapKept.heap_alloc w _).1]
    exact ⟨_, Array.getElem?_eq_getElem (by rw [size_madeCells]; exact ho)⟩
  · simp only [World.frozen?]
    rw [(MapKept.heap_alloc w _).1]
    simp

theorem CFill.next {κ : IntKind} {t : TypeId} {w wr w1 : World} {g : Nat} {Is Js : List Sl} (h : CFill κ w wr g Is Js) {xa : Option Addr} {xc : Nat} {xs : List Int} (hx : Is[Js.length]? = some (xa, xc, xs)) {xa' : Option Addr} {xc' : Nat} (hi : ICopy κ t wr w1 xa xs xa' xc') :
    CFill κ w (w1.setCell ⟨g, Js.length, none⟩ (.slice xa' xs.length xc')) g Is (Js ++ [(xa', xc', xs)]) := by
  have hk : Js.length < Is.length := (List.getElem?_eq_some_iff.1 hx).1
  obtain ⟨v0, hv0⟩ := h.any Js.length hk
  have hv1 : w1.cell? ⟨g, Js.length, none⟩ = some v0 := (hi.below.cell h.lt).trans hv0
  have hge := h.ge
  have hs := h.below.size
  have hs1 := hi.below.size
  have hlt := h.lt
  have hnew : ∀ p, xa' = some p → p.block ≠ g := fun p hp => by have := (hi.lt hp).1; omega
  refine ⟨fun j x y hx' hy => ?_, fun j y hy => ?_, fun y hy => ?_, fun y hy => ?_, fun o ho => ?_, fun o => ?_, ?_, hge, by simpa [World.setCell] using (by omega : g < w1.heap.size)⟩
  · by_cases e : j < Js.length
    · rw [List.getElem?_append_left e] at hy
      exact h.same j x y hx' hy
    · have : j = Js.length := by
        have := (List.getElem?_eq_some_iff.1 hy).1
        simp at this
        omega
      subst this
      rw [hx] at hx'
      simp at hy
      cases hx'
      cases hy
      exact ⟨rfl, hi.hnil, hi.hnone⟩
  · by_cases e : j < Js.length
    · rw [List.getElem?_append_left e] at hy
      rw [World.cell?_setCell_other _ _ _ _ (by intro q; simp only [Addr.mk.injEq] at q; omega)]
      exact (hi.below.cell h.lt).trans (h.cells j y hy)
    · have : j = Js.length := by
        have := (List.getElem?_eq_some_iff.1 hy).1
        simp at this
        omega
      subst this
      simp at hy
      cases hy
      exact World.cell?_setCell_same _ _ _ hv1
  · rcases List.mem_append.1 hy with hy | hy
    · exact ((h.has y hy).below hi.below).setCell (fun p hp => h.sep y hy p hp)
    · simp at hy
      subst hy
      exact hi.has.setCell hnew
  · rcases List.mem_append.1 hy with hy | hy
    · exact h.sep y hy
    · simp at hy
      subst hy
      exact hnew
  · obtain ⟨v, hv⟩ := h.any o ho
    exact cell?_setCell_some ((hi.below.cell h.lt).trans hv)
  · rw [World.frozen?_setCell]
    exact (hi.below.frozen h.lt).trans (h.free o)
  · exact (h.below.trans (hi.below.mono hs)).setCell hge _

/-- The copy of a slice of slices. -/
structure LCopy (κ : IntKind) (w w' : World) (Is Js : List Sl) (a' : Option Addr) : Prop where
  len : Js.length = Is.length
  same : ∀ (j : Nat) (x y : Sl), Is[j]? = some x → Js[j]? = some y → Twin x y
  row : Has w' a' (Js.map sI)
  has : ∀ y ∈ Js, Has w' y.1 (y.2.2.map (.int κ))
  below : Below w.heap.size w w'

theorem CFill.copy {κ : IntKind} {w wr : World} {g : Nat} {Is Js : List Sl} (h : CFill κ w wr g Is Js) (hl : Js.length = Is.length) : LCopy κ w wr Is Js (some ⟨g, 0, none⟩) := by
  refine ⟨hl, h.same, fun j hj => ?_, h.has, h.below⟩
  have hj' : j < Js.length := by simpa using hj
  have e := List.getElem?_eq_getElem hj'
  refine ⟨g, 0, rfl, h.lt, ?_⟩
  rw [Nat.zero_add, h.cells j _ e]
  simp [hj']

theorem lcopy_nil (κ : IntKind) (w : World) : LCopy κ w w [] [] none :=
  ⟨rfl, fun j x y h => by simp at h, fun j hj => absurd hj (by simp), fun y h => by simp at h, Below.refl _ _⟩

set_option maxRecDepth 100000 in
set_option maxHeartbeats 1000000 in
theorem clone13_some (x : Addr) (c : Nat) (Is : List Sl) (w : World) (hl : Is.length ≤ 131072) (ht : total Is ≤ 131072) (hc : Hid (Has w (some x) (Is.map sI))) (hI : Hid (∀ x ∈ Is, Has w x.1 (x.2.2.map (.int .i64)))) (hn : Hid (∀ x ∈ Is, x.1 = none → x.2.1 = 0 ∧ x.2.2 = [])) :
    Calls Try.prog 13 #[.slice (some x) Is.length c] w fun e w' => ∃ a' c' Js, e = .returned (.slice a' Is.length c') ∧ LCopy .i64 w w' Is Js a' := by
  have qnil := fun (w : World) (a : Option Addr) (n c n' c' : Nat) => Lib.run_eql_slice_nil w 22 _ a n c n' c' Try.underlying22
  have hmk := make_run 22 28 (.slice none 0 0) 24 Try.underlying22 Try.info28 rfl Is.length (by omega) (by omega)
  go_enter Try.func13, Try.ntmps13
  go_wp2
  go_loopw [4] (fun i wr => ∃ (k : Nat), k ≤ Is.length ∧ i = .int .i64 k ∧ Hid (∃ Js, Js.length = k ∧ CFill .i64 w wr w.heap.size Is Js)) (fun i _ => Is.length - (intOf i).toNat)
  case atStart => exact ⟨0, Nat.zero_le _, rfl, [], rfl, cfill_made _ _ _ _⟩
  case round =>
    obtain ⟨k, hk, rfl, hF⟩ := hrel
    by_cases hlt : k < Is.length
    · obtain ⟨⟨xa, xc, xs⟩, hs⟩ : ∃ s, Is[k]? = some s := ⟨_, List.getElem?_eq_getElem hlt⟩
      obtain ⟨Js, hJ, hFF⟩ := hF.out
      obtain ⟨b, off, hxe, hb, hcell⟩ := (hc.out.below hFF.below).at (k := k) (x := .slice xa xs.length xc) (by simp [hs, sI])
      obtain rfl := Option.some.inj hxe
      have hmem := List.mem_of_getElem? hs
      have hxx := hid ((hI.out _ hmem).below hFF.below)
      have hnk := hid (hn.out _ hmem)
      have hxl : xs.length ≤ 131072 := Nat.le_trans (total_mem hmem) ht
      have HF := hid hFF
      have HJ := hid hJ
      have HS := hid hs
      clear hs hmem hF hFF hJ
      go_wp2_with fail
      refine (clone23 xa xc xs _ (by omega) hnk.out hxx).mono ?_
      rintro e w1 ⟨a', c', rfl, hi⟩
      have hnx := HF.out.next (by rw [HJ.out]; exact HS.out) hi
      rw [HJ.out] at hnx
      obtain ⟨v0, hv0⟩ := HF.out.any k (by omega)
      have hv1 : w1.cell? ⟨w.heap.size, k, none⟩ = some v0 := (hi.below.cell HF.out.lt).trans hv0
      have hf1 : w1.frozen? ⟨w.heap.size, k, none⟩ = false := (hi.below.frozen HF.out.lt).trans (HF.out.free k)
      have hnx := hid hnx
      have HL := hid (show (Js ++ [(a', c', xs)]).length = k + 1 by simp [HJ.out])
      clear hi hv0
      go_wp2
      exact ⟨⟨k + 1, by omega, by go_num, _, HL.out, hnx.out⟩, by simp [intOf]; omega⟩
    · obtain rfl : k = Is.length := by omega
      go_wp2
      go_ret
      obtain ⟨Js, hJ, hFF⟩ := hF.out
      exact ⟨_, _, Js, rfl, hFF.copy hJ⟩

set_option maxRecDepth 100000 in
set_option maxHeartbeats 1000000 in
theorem clone14_some (x : Addr) (c : Nat) (Is : List Sl) (w : World) (hl : Is.length ≤ 131072) (ht : total Is ≤ 131072) (hc : Hid (Has w (some x) (Is.map sI))) (hI : Hid (∀ x ∈ Is, Has w x.1 (x.2.2.map (.int .u64)))) (hn : Hid (∀ x ∈ Is, x.1 = none → x.2.1 = 0 ∧ x.2.2 = [])) :
    Calls Try.prog 14 #[.slice (some x) Is.length c] w fun e w' => ∃ a' c' Js, e = .returned (.slice a' Is.length c') ∧ LCopy .u64 w w' Is Js a' := by
  have qnil := fun (w : World) (a : Option Addr) (n c n' c' : Nat) => Lib.run_eql_slice_nil w 23 _ a n c n' c' Try.underlying23
  have hmk := make_run 23 29 (.slice none 0 0) 24 Try.underlying23 Try.info29 rfl Is.length (by omega) (by omega)
  go_enter Try.func14, Try.ntmps14
  go_wp2
  go_loopw [4] (fun i wr => ∃ (k : Nat), k ≤ Is.length ∧ i = .int .i64 k ∧ Hid (∃ Js, Js.length = k ∧ CFill .u64 w wr w.heap.size Is Js)) (fun i _ => Is.length - (intOf i).toNat)
  case atStart => exact ⟨0, Nat.zero_le _, rfl, [], rfl, cfill_made _ _ _ _⟩
  case round =>
    obtain ⟨k, hk, rfl, hF⟩ := hrel
    by_cases hlt : k < Is.length
    · obtain ⟨⟨xa, xc, xs⟩, hs⟩ : ∃ s, Is[k]? = some s := ⟨_, List.getElem?_eq_getElem hlt⟩
      obtain ⟨Js, hJ, hFF⟩ := hF.out
      obtain ⟨b, off, hxe, hb, hcell⟩ := (hc.out.below hFF.below).at (k := k) (x := .slice xa xs.length xc) (by simp [hs, sI])
      obtain rfl := Option.some.inj hxe
      have hmem := List.mem_of_getElem? hs
      have hxx := hid ((hI.out _ hmem).below hFF.below)
      have hnk := hid (hn.out _ hmem)
      have hxl : xs.length ≤ 131072 := Nat.le_trans (total_mem hmem) ht
      have HF := hid hFF
      have HJ := hid hJ
      have HS := hid hs
      clear hs hmem hF hFF hJ
      go_wp2_with fail
      refine (clone24 xa xc xs _ (by omega) hnk.out hxx).mono ?_
      rintro e w1 ⟨a', c', rfl, hi⟩
      have hnx := HF.out.next (by rw [HJ.out]; exact HS.out) hi
      rw [HJ.out] at hnx
      obtain ⟨v0, hv0⟩ := HF.out.any k (by omega)
      have hv1 : w1.cell? ⟨w.heap.size, k, none⟩ = some v0 := (hi.below.cell HF.out.lt).trans hv0
      have hf1 : w1.frozen? ⟨w.heap.size, k, none⟩ = false := (hi.below.frozen HF.out.lt).trans (HF.out.free k)
      have hnx := hid hnx
      have HL := hid (show (Js ++ [(a', c', xs)]).length = k + 1 by simp [HJ.out])
      clear hi hv0
      go_wp2
      exact ⟨⟨k + 1, by omega, by go_num, _, HL.out, hnx.out⟩, by simp [intOf]; omega⟩
    · obtain rfl : k = Is.length := by omega
      go_wp2
      go_ret
      obtain ⟨Js, hJ, hFF⟩ := hF.out
      exact ⟨_, _, Js, rfl, hFF.copy hJ⟩

theorem clone13_nil (w : World) : Calls Try.prog 13 #[.slice none 0 0] w fun e w' => e = .returned (.slice none 0 0) ∧ w' = w := by
  have qnil := fun (w : World) (a : Option Addr) (n c n' c' : Nat) => Lib.run_eql_slice_nil w 22 _ a n c n' c' Try.underlying22
  go_enter Try.func13, Try.ntmps13
  go_wp2
  go_ret
  exact ⟨rfl, rfl⟩

theorem clone14_nil (w : World) : Calls Try.prog 14 #[.slice none 0 0] w fun e w' => e = .returned (.slice none 0 0) ∧ w' = w := by
  have qnil := fun (w : World) (a : Option Addr) (n c n' c' : Nat) => Lib.run_eql_slice_nil w 23 _ a n c n' c' Try.underlying23
  go_enter Try.func14, Try.ntmps14
  go_wp2
  go_ret
  exact ⟨rfl, rfl⟩

theorem clone13 (a : Option Addr) (c : Nat) (Is : List Sl) (w : World) (hl : Is.length ≤ 131072) (ht : total Is ≤ 131072) (hc : Has w a (Is.map sI)) (hI : ∀ x ∈ Is, Has w x.1 (x.2.2.map (.int .i64))) (hn : ∀ x ∈ Is, x.1 = none → x.2.1 = 0 ∧ x.2.2 = []) (h0 : a = none → c = 0 ∧ Is = []) :
    Calls Try.prog 13 #[.slice a Is.length c] w fun e w' => ∃ a' c' Js, e = .returned (.slice a' Is.length c') ∧ LCopy .i64 w w' Is Js a' := by
  cases a with
  | none =>
    obtain ⟨rfl, rfl⟩ := h0 rfl
    refine (clone13_nil w).mono ?_
    rintro e w' ⟨rfl, rfl⟩
    exact ⟨none, 0, [], rfl, lcopy_nil _ _⟩
  | some x => exact clone13_some x c Is w hl ht hc hI hn

theorem clone14 (a : Option Addr) (c : Nat) (Is : List Sl) (w : World) (hl : Is.length ≤ 131072) (ht : total Is ≤ 131072) (hc : Has w a (Is.map sI)) (hI : ∀ x ∈ Is, Has w x.1 (x.2.2.map (.int .u64))) (hn : ∀ x ∈ Is, x.1 = none → x.2.1 = 0 ∧ x.2.2 = []) (h0 : a = none → c = 0 ∧ Is = []) :
    Calls Try.prog 14 #[.slice a Is.length c] w fun e w' => ∃ a' c' Js, e = .returned (.slice a' Is.length c') ∧ LCopy .u64 w w' Is Js a' := by
  cases a with
  | none =>
    obtain ⟨rfl, rfl⟩ := h0 rfl
    refine (clone14_nil w).mono ?_
    rintro e w' ⟨rfl, rfl⟩
    exact ⟨none, 0, [], rfl, lcopy_nil _ _⟩
  | some x => exact clone14_some x c Is w hl ht hc hI hn

set_option maxRecDepth 100000 in
set_option maxHeartbeats 400000 in
theorem sameWords17 (a : Option Addr) (c : Nat) (c2 : Nat) (bs : List Int) (w : World) (hl : bs.length ≤ 1048576) (hk : Hid (Has w a (bs.map (.int .u64)))) :
    Calls Try.prog 17 #[.slice a bs.length c, .slice a bs.length c2] w fun e w' => e = .returned (.bool true) ∧ ∃ n, w' = w.drewN n := by
  have qnil := fun (w : World) (a : Option Addr) (n c n' c' : Nat) => Lib.run_eql_slice_nil w 29 _ a n c n' c' Try.underlying29
  go_enter Try.func17, Try.ntmps17
  go_wp2
  go_loopw [5] (fun i wr => ∃ (k n : Nat), k ≤ bs.length ∧ i = .int .i64 k ∧ wr = w.drewN n) (fun i _ => bs.length - (intOf i).toNat)
  case atStart => exact ⟨0, 0, Nat.zero_le _, rfl, rfl⟩
  case round =>
    obtain ⟨k, n, hk1, rfl, rfl⟩ := hrel
    by_cases hlt : k < bs.length
    · obtain ⟨b, off, rfl, hb, hcell⟩ := hk.out.at (k := k) (x := .int .u64 (bs[k]'hlt)) (by simp [hlt])
      have hi0 : (0 : Int) ≤ (k : Int) := by omega
      have hi1 : (k : Int) < (bs.length : Int) := by omega
      go_wp2
      go_quiet (fail)
      go_wp2
      exact ⟨⟨k + 1, n + nq, by omega, by go_num, by simp⟩, by simp [intOf]; omega⟩
    · go_wp2
      go_ret
      exact ⟨rfl, n, rfl⟩

theorem twins_map {Is Js : List Sl} (hl : Js.length = Is.length) (h : ∀ (j : Nat) (x y : Sl), Is[j]? = some x → Js[j]? = some y → Twin x y) : Js.map (fun x => x.2.2) = Is.map (fun x => x.2.2) := by
  apply List.ext_getElem
  · simp [hl]
  · intro i h1 h2
    have h1' : i < Js.length := by simpa using h1
    have h2' : i < Is.length := by simpa using h2
    have := h i _ _ (List.getElem?_eq_getElem h2') (List.getElem?_eq_getElem h1')
    simpa using this.1

theorem twins_total {Is Js : List Sl} (hl : Js.length = Is.length) (h : ∀ (j : Nat) (x y : Sl), Is[j]? = some x → Js[j]? = some y → Twin x y) : total Js = total Is := by
  have e := congrArg (fun l => (l.map List.length).sum) (twins_map hl h)
  simpa [total, List.map_map, Function.comp_def] using e

theorem twins_mem {Is Js : List Sl} (hl : Js.length = Is.length) (h : ∀ (j : Nat) (x y : Sl), Is[j]? = some x → Js[j]? = some y → Twin x y) {y : Sl} (hy : y ∈ Js) : ∃ x ∈ Is, Twin x y := by
  obtain ⟨j, hj, rfl⟩ := List.getElem_of_mem hy
  have hj' : j < Is.length := by omega
  exact ⟨_, List.getElem_mem hj', h j _ _ (List.getElem?_eq_getElem hj') (List.getElem?_eq_getElem hj)⟩

theorem twins_ok {Is Js Ss Ts : List Sl} {n : Nat} (hl : Js.length = Is.length) (h : ∀ (j : Nat) (x y : Sl), Is[j]? = some x → Js[j]? = some y → Twin x y) (_hl2 : Ts.length = Ss.length) (h2 : ∀ (j : Nat) (x y : Sl), Ss[j]? = some x → Ts[j]? = some y → Twin x y) (hlen : Is.length = Ss.length) (hok : UnionOk Is Ss n) : UnionOk Js Ts n := by
  intro k x' y' hx' hy'
  have hk := (List.getElem?_eq_some_iff.1 hx').1
  have hk1 : k < Is.length := by omega
  have hk2 : k < Ss.length := by omega
  have hx := List.getElem?_eq_getElem hk1
  have hy := List.getElem?_eq_getElem hk2
  obtain ⟨a1, a2, _⟩ := h k _ _ hx hx'
  obtain ⟨b1, b2, _⟩ := h2 k _ _ hy hy'
  obtain ⟨o1, o2⟩ := hok k _ _ hx hy
  refine ⟨fun q v hv => o1 (b2.1 q) v (by rw [← a1]; exact hv), fun q => ?_⟩
  rw [b1]
  exact o2 (fun e => q (b2.2 e))
end Go.Proofs.Qxb6603130a
