import Derived.Test.Qxb6603130aClones
import Derived.Test.Qxb6603130aSizes
namespace Go.Proofs.Qxb6603130a
open Go.RowKit

theorem hid' {p : Prop} (h : p) : Hid p := h

/-- A slice of strings that is nil lies nowhere and holds nothing. -/
def NilOk (x : Option Addr × Nat × List ByteArray) : Prop := x.1 = none → x.2.1 = 0 ∧ x.2.2 = []

theorem clone31 (a : Option Addr) (c : Nat) (ss : List ByteArray) (w : World) (hl : ss.length ≤ 1048576) (hn : NilOk (a, c, ss)) (hc : Hid (Has w a (ss.map .string))) :
    Calls Try.prog 31 #[.slice a ss.length c] w fun e w' => ∃ a' c', e = .returned (.slice a' ss.length c') ∧ Below w.heap.size w w' ∧ Has w' a' (ss.map .string) ∧ (a' = none ↔ a = none) ∧ (∀ x, a' = some x → w.heap.size ≤ x.block) := by
  cases a with
  | none =>
    obtain ⟨rfl, rfl⟩ := hn rfl
    refine (clone31_nil w).mono ?_
    rintro e w' ⟨rfl, rfl⟩
    exact ⟨none, 0, rfl, Below.refl _ _, hc.out, by simp, fun x h => by cases h⟩
  | some x =>
    refine (clone31_some x c ss w hl hc).mono ?_
    rintro e w' ⟨rfl, rfl⟩
    refine ⟨_, _, rfl, (Below.refl _ _).alloc (Nat.le_refl _) _, ?_, by simp, fun x h => by cases h; exact Nat.le_refl _⟩
    intro j hj
    exact ⟨_, _, rfl, by simp, by simp⟩

/-- The new list's cells: slices, all of them. -/
def Slices (w : World) (g n : Nat) : Prop := ∀ j, j < n → ∃ a l c, w.cell? ⟨g, j, none⟩ = some (.slice a l c)

set_option maxRecDepth 100000 in
set_option maxHeartbeats 400000 in
theorem clone32_nil (w : World) : Calls Try.prog 32 #[.slice none 0 0] w fun e w' => e = .returned (.slice none 0 0) ∧ w' = w := by
  have qnil := fun (w : World) (a : Option Addr) (n c n' c' : Nat) => Lib.run_eql_slice_nil w 42 _ a n c n' c' Try.underlying42
  go_enter Try.func32, Try.ntmps32
  go_wp2
  go_ret
  exact ⟨rfl, rfl⟩

theorem slices_made (w : World) (n : Nat) : Slices (w.alloc (.cells (madeCells #[.slice none 0 0] n) 41)) w.heap.size n := by
  intro j hj
  refine ⟨none, 0, 0, ?_⟩
  have e : (madeCells #[Value.slice none 0 0] n)[j]? = some (.slice none 0 0) := by
    rw [← Array.getElem?_toList, toList_madeCells_one]; simp [hj]
  simp [e]

set_option maxRecDepth 100000 in
set_option maxHeartbeats 400000 in
theorem clone32_some (x : Addr) (c : Nat) (vs : List (Option Addr × Nat × List ByteArray)) (w : World) (hl : vs.length ≤ 1048576) (hl2 : Hid (∀ x ∈ vs, x.2.2.length ≤ 1048576 ∧ NilOk x)) (hc : Hid (Has w (some x) (vs.map sv))) (hc2 : Hid (∀ x ∈ vs, Has w x.1 (x.2.2.map .string))) :
    Calls Try.prog 32 #[.slice (some x) vs.length c] w fun e w' => e = .returned (.slice (some ⟨w.heap.size, 0, none⟩) vs.length vs.length) ∧ Below w.heap.size w w' ∧ w.heap.size < w'.heap.size ∧ Slices w' w.heap.size vs.length := by
  have qnil := fun (w : World) (a : Option Addr) (n c n' c' : Nat) => Lib.run_eql_slice_nil w 42 _ a n c n' c' Try.underlying42
  have hmk := make_run 42 41 (.slice none 0 0) 24 Try.underlying42 Try.info41 rfl vs.length hl (by omega)
  go_enter Try.func32, Try.ntmps32
  go_wp2
  go_loopw [4] (fun i wr => ∃ k : Nat, k ≤ vs.length ∧ i = .int .i64 k ∧ Hid (Below w.heap.size w wr) ∧ w.heap.size < wr.heap.size ∧ Hid (Slices wr w.heap.size vs.length) ∧ Hid (∀ j, wr.frozen? ⟨w.heap.size, j, none⟩ = false)) (fun i _ => vs.length - (intOf i).toNat)
  case atStart => exact ⟨0, Nat.zero_le _, rfl, (Below.refl _ _).alloc (Nat.le_refl _) _, by simp, slices_made _ _, fun j => by simp⟩
  case round =>
    obtain ⟨k, hk, rfl, hbel, hsz, hsl, hfr⟩ := hrel
    by_cases hlt : k < vs.length
    · obtain ⟨⟨xa, xc, xs⟩, hs⟩ : ∃ s, vs[k]? = some s := ⟨_, List.getElem?_eq_getElem hlt⟩
      obtain ⟨b, off, hx, hb, hcell⟩ := hc.out.at (k := k) (x := .slice xa xs.length xc) (by simp [hs, sv])
      cases hx
      have hmem := List.mem_of_getElem? hs
      have hcell' : wr.cell? ⟨b, off + k, none⟩ = some (.slice xa xs.length xc) := (hbel.out.cell hb).trans hcell
      have hxx : Hid (Has wr xa (xs.map .string)) := (hc2.out _ hmem).below hbel.out
      have hnk := hid' (hl2.out _ hmem).2
      have hxl : xs.length ≤ 1048576 := (hl2.out _ hmem).1
      clear hs hmem hcell
      go_wp2_with fail
      refine (clone31 xa xc xs _ hxl hnk.out hxx).mono ?_
      rintro e w1 ⟨a', c', rfl, hb1, _, _, _⟩
      obtain ⟨oa, ol, oc, hold⟩ := hsl.out k hlt
      have hold1 : w1.cell? ⟨w.heap.size, k, none⟩ = some (.slice oa ol oc) := (hb1.cell hsz).trans hold
      have hfr1 : w1.frozen? ⟨w.heap.size, k, none⟩ = false := (hb1.frozen hsz).trans (hfr.out k)
      have hsz1 : w.heap.size < w1.heap.size := Nat.lt_of_lt_of_le hsz hb1.size
      have HB1 := hid' hb1
      clear hold hb1
      go_wp2
      refine ⟨⟨k + 1, by omega, by go_num, ?_, by simpa using hsz1, ?_, ?_⟩, by simp [intOf]; omega⟩
      · exact (hbel.out.trans (HB1.out.mono (Nat.le_of_lt hsz))).setCell (Nat.le_refl _) _
      · intro j hj
        by_cases hjk : j = k
        · subst hjk
          exact ⟨_, _, _, World.cell?_setCell_same _ _ _ hold1⟩
        · obtain ⟨qa, ql, qc, hq⟩ := hsl.out j hj
          refine ⟨qa, ql, qc, ?_⟩
          rw [World.cell?_setCell_other _ _ _ _ (by intro h; cases h; exact hjk rfl)]
          exact (HB1.out.cell hsz).trans hq
      · intro j
        rw [World.frozen?_setCell]
        exact (HB1.out.frozen hsz).trans (hfr.out j)
    · go_wp2
      have : k = vs.length := by omega
      subst this
      go_ret
      exact ⟨rfl, hbel.out, hsz, hsl.out⟩

/-- The copy of the buffer. -/
structure Buf33 (w w' : World) (a : Option Addr) (bs : List Int) (a' : Option Addr) (c' : Nat) : Prop where
  below : Below w.heap.size w w'
  has : Has w' a' (bs.map (.int .u8))
  hnil : a' = none ↔ a = none
  hnone : a' = none → c' = 0 ∧ bs = []
  hsome : a' ≠ none → a' = some ⟨w.heap.size, 0, none⟩ ∧ c' = bs.length ∧ w'.ownsRow 0 5 1 (.slice (some ⟨w.heap.size, 0, none⟩) 0 c') 0 []

theorem clone33 (a : Option Addr) (c : Nat) (bs : List Int) (w : World) (hl : bs.length ≤ 1048576) (hn : a = none → c = 0 ∧ bs = []) (hc : Hid (Has w a (bs.map (.int .u8)))) :
    Calls Try.prog 33 #[.slice a bs.length c] w fun e w' => ∃ a' c', e = .returned (.slice a' bs.length c') ∧ Buf33 w w' a bs a' c' := by
  cases a with
  | none =>
    obtain ⟨rfl, rfl⟩ := hn rfl
    refine (clone33_nil w).mono ?_
    rintro e w' ⟨rfl, rfl⟩
    exact ⟨none, 0, rfl, Below.refl _ _, hc.out, by simp, fun _ => ⟨rfl, rfl⟩, fun h => absurd rfl h⟩
  | some x =>
    refine (clone33_some x c bs w hl hc).mono ?_
    rintro e w' ⟨rfl, rfl⟩
    refine ⟨_, _, rfl, (Below.refl _ _).alloc (Nat.le_refl _) _, ?_, by simp, fun h => by simp at h, fun _ => ⟨rfl, rfl, by simp, .inr ⟨_, _, _, rfl, Nat.zero_le _, MapKept.heap_alloc w _ |>.1, Nat.zero_le _, by unfold maxLen; omega, by simp, by simp⟩⟩⟩
    intro j hj
    exact ⟨_, _, rfl, by simp, by simp⟩
end Go.Proofs.Qxb6603130a
