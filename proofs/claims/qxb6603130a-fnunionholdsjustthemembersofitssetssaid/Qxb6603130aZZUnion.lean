import Derived.Test.Qxb6603130aUnion
import Derived.BigQuiet
namespace Go.Proofs.Qxb6603130a
open Go.RowKit

theorem Try.info60 : (Try.prog.info? 60).map (fun i => (i.zero, i.size, i.bytes)) = some (some (.agg #[.slice none 0 0, .slice none 0 0]), 2, 48) := by kernel_rfl

theorem make58_run (n : Nat) (hn : n ≤ 1048576) (w : World) :
    (Instr.makeSlice 58 (.int .i64 (n : Int)) (.int .i64 (n : Int))).run Try.prog w = .ok (.slice (some ⟨w.heap.size, 0, none⟩) n n) (w.alloc (.cells (madeCells #[.slice none 0 0, .slice none 0 0] (n * 2)) 60)) := by
  obtain ⟨i, hi, h0, h1, h2⟩ := info_parts Try.info60
  have hr := run_make (P := Try.prog) w 58 60 i (.agg #[.slice none 0 0, .slice none 0 0]) Try.underlying58 hi h0 .i64 .i64 n n (by omega) (Int.le_refl _) (by rw [h2]; omega) (by omega)
  simp only [Int.toNat_natCast, h1] at hr
  exact hr

/-- The row of sets, filled up to k. -/
structure Fill (w wr : World) (g : Nat) (Is Ss : List Sl) (k : Nat) : Prop where
  ids : ∀ (j : Nat) (x : Sl), j < k → Is[j]? = some x → wr.cell? ⟨g, j * 2, none⟩ = some (sI x)
  set : ∀ (j : Nat) (x : Sl), j < k → Ss[j]? = some x → wr.cell? ⟨g, j * 2 + 1, none⟩ = some (sI x)
  any : ∀ o, o < Is.length * 2 → ∃ v, wr.cell? ⟨g, o, none⟩ = some v
  free : ∀ o, wr.frozen? ⟨g, o, none⟩ = false
  below : Below w.heap.size w wr
  ge : w.heap.size ≤ g
  lt : g < wr.heap.size

theorem fill_made (w : World) (Is Ss : List Sl) : Fill w (w.alloc (.cells (madeCells #[.slice none 0 0, .slice none 0 0] (Is.length * 2)) 60)) w.heap.size Is Ss 0 := by
  refine ⟨fun j x hj => by omega, fun j x hj => by omega, fun o ho => ?_, fun o => ?_, box_below' _ _, Nat.le_refl _, by simp⟩
  · simp only [World.cell?]
    rw [(MapKept.heap_alloc w _).1]
    exact ⟨_, Array.getElem?_eq_getElem (by rw [size_madeCells]; exact ho)⟩
  · simp only [World.frozen?]
    rw [(MapKept.heap_alloc w _).1]
    simp

theorem Fill.next {w wr : World} {g : Nat} {Is Ss : List Sl} {k : Nat} (h : Fill w wr g Is Ss k) {x y : Sl} (hx : Is[k]? = some x) (hy : Ss[k]? = some y) :
    Fill w ((wr.setCell ⟨g, k * 2, none⟩ (sI x)).setCell ⟨g, k * 2 + 1, none⟩ (sI y)).drew g Is Ss (k + 1) := by
  have hk : k < Is.length := (List.getElem?_eq_some_iff.1 hx).1
  obtain ⟨v0, hv0⟩ := h.any (k * 2) (by omega)
  obtain ⟨v1, hv1⟩ := h.any (k * 2 + 1) (by omega)
  refine ⟨fun j z hj hz => ?_, fun j z hj hz => ?_, fun o ho => ?_, fun o => ?_, ((h.below.setCell h.ge _).setCell h.ge _).drew, h.ge, ?_⟩
  · show ((wr.setCell ⟨g, k * 2, none⟩ (sI x)).setCell ⟨g, k * 2 + 1, none⟩ (sI y)).cell? _ = _
    rw [World.cell?_setCell_other _ _ _ _ (by intro q; simp only [Addr.mk.injEq] at q; omega)]
    by_cases e : j = k
    · subst e
      rw [hx] at hz
      cases hz
      exact World.cell?_setCell_same _ _ _ hv0
    · rw [World.cell?_setCell_other _ _ _ _ (by intro q; simp only [Addr.mk.injEq] at q; omega)]
      exact h.ids j z (by omega) hz
  · show ((wr.setCell ⟨g, k * 2, none⟩ (sI x)).setCell ⟨g, k * 2 + 1, none⟩ (sI y)).cell? _ = _
    by_cases e : j = k
    · subst e
      rw [hy] at hz
      cases hz
      exact World.cell?_setCell_same _ _ _ ((World.cell?_setCell_other _ _ _ _ (by intro q; simp only [Addr.mk.injEq] at q; omega)).trans hv1)
    · rw [World.cell?_setCell_other _ _ _ _ (by intro q; simp only [Addr.mk.injEq] at q; omega), World.cell?_setCell_other _ _ _ _ (by intro q; simp only [Addr.mk.injEq] at q; omega)]
      exact h.set j z (by omega) hz
  · obtain ⟨v, hv⟩ := h.any o ho
    obtain ⟨v', hv'⟩ := cell?_setCell_some (p := ⟨g, k * 2, none⟩) (x := sI x) hv
    exact cell?_setCell_some (p := ⟨g, k * 2 + 1, none⟩) (x := sI y) hv'
  · show ((wr.setCell ⟨g, k * 2, none⟩ (sI x)).setCell ⟨g, k * 2 + 1, none⟩ (sI y)).frozen? _ = _
    rw [World.frozen?_setCell, World.frozen?_setCell]
    exact h.free o
  · show g < ((wr.setCell ⟨g, k * 2, none⟩ (sI x)).setCell ⟨g, k * 2 + 1, none⟩ (sI y)).heap.size
    simpa [World.setCell] using h.lt

theorem Holds.dr {w : World} {gs W : Nat} {f : Nat → Bool} {L : List Int} (h : Holds w gs W f L) (n : Nat) : Holds (w.drewN n) gs W f L := ⟨h.row, h.len, h.words, h.bit⟩

/-- The sets as they are handed. -/
structure Hands (w : World) (a0 a1 : Option Addr) (Is Ss : List Sl) : Prop where
  len : Is.length = Ss.length
  r0 : Has w a0 (Is.map sI)
  r1 : Has w a1 (Ss.map sI)
  hI : ∀ x ∈ Is, Has w x.1 (x.2.2.map (.int .i64))
  hS : ∀ x ∈ Ss, Has w x.1 (x.2.2.map (.int .u64))
  nI : ∀ x ∈ Is, x.1 = none → x.2.1 = 0 ∧ x.2.2 = []
  nS : ∀ x ∈ Ss, x.1 = none → x.2.1 = 0 ∧ x.2.2 = []

theorem Fill.sets {w wr : World} {g : Nat} {Is Ss : List Sl} {a0 a1 : Option Addr} (h : Fill w wr g Is Ss Is.length) (hh : Hands w a0 a1 Is Ss) : Sets wr g Is Ss :=
  ⟨hh.len, fun k x hx => h.ids k x (List.getElem?_eq_some_iff.1 hx).1 hx, fun k x hx => h.set k x (by rw [hh.len]; exact (List.getElem?_eq_some_iff.1 hx).1) hx, h.lt,
   fun x hx => (hh.hI x hx).below h.below, fun x hx => (hh.hS x hx).below h.below, hh.nI, hh.nS⟩

/-- What the door to union answers when it answers by bits. -/
def ZZBits (Is Ss : List Sl) (n : Nat) (w : World) (e : Ending) (w' : World) : Prop :=
  ∃ gs, e = .returned (.tuple #[.slice none 0 0, .slice (some ⟨gs, 0, none⟩) ((n + 63) / 64) ((n + 63) / 64)]) ∧ (∃ L, Holds w' gs ((n + 63) / 64) (memTo Is Ss Is.length) L) ∧ Below w.heap.size w w' ∧ w.heap.size ≤ gs

set_option maxRecDepth 100000 in
set_option maxHeartbeats 2000000 in
theorem zz15_bits (a0 a1 : Option Addr) (c0 c1 : Nat) (Is Ss : List Sl) (n : Nat) (w : World) (hn : n ≤ 65536) (hm : Is.length ≤ 131072) (hm1 : Is.length ≠ 1) (hH : Hid (Hands w a0 a1 Is Ss)) (htot : total Is ≤ 1048576)
    (hb : Hid (∃ x ∈ Ss, x.1 ≠ none)) (hok : Hid (∀ (k : Nat) (x y : Sl), Is[k]? = some x → Ss[k]? = some y → (y.1 = none → ∀ v ∈ x.2.2, 0 ≤ v ∧ v < 64 * (((n + 63) / 64 : Nat) : Int)) ∧ (y.1 ≠ none → y.2.2.length ≤ (n + 63) / 64 ∧ Words y.2.2))) :
    Calls Try.prog 15 #[.slice a0 Is.length c0, .slice a1 Is.length c1, .int .i64 n] w (ZZBits Is Ss n w) := by
  have hmk := make58_run Is.length (by omega)
  have hst := hid (fill_made w Is Ss)
  go_enter Try.func15, Try.ntmps15
  go_wp2
  go_loopw [9] (fun i wq => ∃ (k : Nat), k ≤ Is.length ∧ i = .int .i64 k ∧ Hid (Fill w wq w.heap.size Is Ss k)) (fun i _ => Is.length - (intOf i).toNat)
  case atStart => exact ⟨0, Nat.zero_le _, rfl, hst⟩
  case round =>
    clear hst
    obtain ⟨k, hk1, rfl, hF⟩ := hrel
    by_cases hlt : k < Is.length
    · obtain ⟨⟨xa, xc, xs⟩, hx⟩ : ∃ x, Is[k]? = some x := ⟨_, List.getElem?_eq_getElem hlt⟩
      obtain ⟨⟨ya, yc, ys⟩, hy⟩ : ∃ x, Ss[k]? = some x := ⟨_, List.getElem?_eq_getElem (by rw [← hH.out.len]; exact hlt)⟩
      obtain ⟨b0, o0, rfl, hb0, hc0⟩ := (hH.out.r0.below hF.out.below).at (k := k) (x := .slice xa xs.length xc) (by simp [hx, sI])
      obtain ⟨b1, o1, rfl, hb1, hc1⟩ := (hH.out.r1.below hF.out.below).at (k := k) (x := .slice ya ys.length yc) (by simp [hy, sI])
      obtain ⟨v0, hv0⟩ := hF.out.any (k * 2) (by omega)
      obtain ⟨v1, hv1⟩ := hF.out.any (k * 2 + 1) (by omega)
      have hf0 := hF.out.free (k * 2)
      have hf1 := hF.out.free (k * 2 + 1)
      have hnx := hid (hF.out.next hx hy)
      have hi1 : (k : Int) < (Is.length : Int) := by omega
      clear hx hy hF
      go_wp2
      go_region
      go_wp2
      exact ⟨⟨k + 1, by omega, by go_num, hnx⟩, by simp [intOf]; omega⟩
    · obtain rfl : k = Is.length := by omega
      have hS := hid (hF.out.sets hH.out)
      have hbl := hid hF.out.below
      clear hF
      go_wp2_with fail
      refine (union42_bits w.heap.size Is Ss n wr hn hm hm1 hS htot hb hok).mono ?_
      rintro e w' ⟨gs, rfl, hL, hB, hge⟩
      have hL := hid hL
      have hB := hid hB
      go_wp2
      go_quiet (fail)
      go_wp2
      obtain ⟨L, hLL⟩ := hL.out
      have hs := hbl.out.size
      have hs' := hB.out.size
      refine bodyPost_ret (v := .tuple #[.slice none 0 0, .slice (some ⟨gs, 0, none⟩) ((n + 63) / 64) ((n + 63) / 64)]) (by simp [results, Try.results15, go_sem]) rfl ⟨gs, rfl, ⟨L, (hLL.grow (box_below' _ _)).dr nq⟩, below_dr ((hbl.out.trans (hB.out.mono hs)).alloc (by omega) _) nq, by omega⟩
end Go.Proofs.Qxb6603130a
