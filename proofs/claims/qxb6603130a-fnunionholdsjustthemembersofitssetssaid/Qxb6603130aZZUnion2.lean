import Derived.Test.Qxb6603130aUnion2
namespace Go.Proofs.Qxb6603130a
open Go.RowKit

/-- What union answers, however it answers. -/
def UnionAny (Φ : Option Addr → Nat → Nat → Option Addr → Nat → Nat → World → Prop) (w : World) (e : Ending) (w' : World) : Prop :=
  ∃ ga gn gc sa sn sc, e = .returned (.agg #[.slice ga gn gc, .slice sa sn sc]) ∧ Φ ga gn gc sa sn sc w' ∧ Below w.heap.size w w'

def ZZAny (Φ : Option Addr → Nat → Nat → Option Addr → Nat → Nat → World → Prop) (w : World) (e : Ending) (w' : World) : Prop :=
  ∃ ga gn gc sa sn sc, e = .returned (.tuple #[.slice ga gn gc, .slice sa sn sc]) ∧ Φ ga gn gc sa sn sc w' ∧ Below w.heap.size w w'

set_option maxRecDepth 100000 in
set_option maxHeartbeats 2000000 in
theorem union42_one (g : Nat) (xa : Option Addr) (xc : Nat) (xs : List Int) (ya : Option Addr) (yc : Nat) (ys : List Int) (z : Int) (w : World) (hS : Hid (Sets w g [(xa, xc, xs)] [(ya, yc, ys)])) :
    Calls Try.prog 42 #[.slice (some ⟨g, 0, none⟩) 1 1, .int .i64 z] w fun e w' => e = .returned (.agg #[.slice xa xs.length xc, .slice ya ys.length yc]) ∧ Below w.heap.size w w' := by
  have hc0 : w.cell? ⟨g, 0, none⟩ = some (.slice xa xs.length xc) := hS.out.ids 0 _ rfl
  have hc1 : w.cell? ⟨g, 1, none⟩ = some (.slice ya ys.length yc) := hS.out.set 0 _ rfl
  have hlt := hS.out.lt
  go_enter Try.func42, Try.ntmps42
  go_wp2
  refine bodyPost_ret (v := .agg #[.slice xa xs.length xc, .slice ya ys.length yc]) (by simp [results, Try.results42, go_sem]) rfl ⟨rfl, box_below' _ _⟩

set_option maxRecDepth 100000 in
set_option maxHeartbeats 2000000 in
theorem zz15_any (Φ : Option Addr → Nat → Nat → Option Addr → Nat → Nat → World → Prop) (hΦ : ∀ {ga gn gc sa sn sc} {w' : World} (o : Obj) (q : Nat), Φ ga gn gc sa sn sc w' → Φ ga gn gc sa sn sc ((w'.alloc o).drewN q))
    (a0 a1 : Option Addr) (c0 c1 : Nat) (Is Ss : List Sl) (z : Int) (w : World) (hm : Is.length ≤ 131072) (hH : Hid (Hands w a0 a1 Is Ss))
    (hU : Hid (∀ wr, Below w.heap.size w wr → Sets wr w.heap.size Is Ss → Calls Try.prog 42 #[.slice (some ⟨w.heap.size, 0, none⟩) Is.length Is.length, .int .i64 z] wr (UnionAny Φ wr))) :
    Calls Try.prog 15 #[.slice a0 Is.length c0, .slice a1 Is.length c1, .int .i64 z] w (ZZAny Φ w) := by
  have hmk := make58_run Is.length (by omega)
  have hst := hid (fill_made w Is Ss)
  go_enter Try.func15, Try.ntmps15
  go_wp2
  go_loopw [9] (fun i wq => ∃ (k : Nat), k ≤ Is.length ∧ i = .int .i64 k ∧ Hid (Fill w wq w.heap.size Is Ss k)) (fun i _ => Is.length - (intOf i).toNat)
  case atStart => exact ⟨0, Nat.zero_le _, rfl, hst⟩
  case round =>
    clear hst
    obtain ⟨k, hk1, rfl, hF⟩ := hrel
    by_cases hlt : k < Is.length
    · obtain ⟨⟨xa, xc, xs⟩, hx⟩ : ∃ x, Is[k]? = some x := ⟨_, List.getElem?_eq_getElem hlt⟩
      obtain ⟨⟨ya, yc, ys⟩, hy⟩ : ∃ x, Ss[k]? = some x := ⟨_, List.getElem?_eq_getElem (by rw [← hH.out.len]; exact hlt)⟩
      obtain ⟨b0, o0, rfl, hb0, hc0⟩ := (hH.out.r0.below hF.out.below).at (k := k) (x := .slice xa xs.length xc) (by simp [hx, sI])
      obtain ⟨b1, o1, rfl, hb1, hc1⟩ := (hH.out.r1.below hF.out.below).at (k := k) (x := .slice ya ys.length yc) (by simp [hy, sI])
      obtain ⟨v0, hv0⟩ := hF.out.any (k * 2) (by omega)
      obtain ⟨v1, hv1⟩ := hF.out.any (k * 2 + 1) (by omega)
      have hf0 := hF.out.free (k * 2)
      have hf1 := hF.out.free (k * 2 + 1)
      have hnx := hid (hF.out.next hx hy)
      have hi1 : (k : Int) < (Is.length : Int) := by omega
      clear hx hy hF
      go_wp2
      go_region
      go_wp2
      exact ⟨⟨k + 1, by omega, by go_num, hnx⟩, by simp [intOf]; omega⟩
    · obtain rfl : k = Is.length := by omega
      have hS := hid (hF.out.sets hH.out)
      have hbl := hid hF.out.below
      clear hF
      go_wp2_with fail
      refine (hU.out wr hbl.out hS.out).mono ?_
      rintro e w' ⟨ga, gn, gc, sa, sn, sc, rfl, hP, hB⟩
      have hP := hid hP
      have hB := hid hB
      go_wp2
      go_quiet (fail)
      go_wp2
      have hs := hbl.out.size
      have hs' := hB.out.size
      refine bodyPost_ret (v := .tuple #[.slice ga gn gc, .slice sa sn sc]) (by simp [results, Try.results15, go_sem]) rfl ⟨ga, gn, gc, sa, sn, sc, rfl, hΦ _ nq hP.out, below_dr ((hbl.out.trans (hB.out.mono hs)).alloc (by omega) _) nq⟩

/-- What the guard says, in the words of union. -/
theorem ok_of {Is Ss : List Sl} {n : Nat} (h : UnionOk Is Ss n) (hw : ∀ x ∈ Ss, Words x.2.2) : ∀ (k : Nat) (x y : Sl), Is[k]? = some x → Ss[k]? = some y → (y.1 = none → ∀ v ∈ x.2.2, 0 ≤ v ∧ v < 64 * (((n + 63) / 64 : Nat) : Int)) ∧ (y.1 ≠ none → y.2.2.length ≤ (n + 63) / 64 ∧ Words y.2.2) := by
  intro k x y hx hy
  obtain ⟨h1, h2⟩ := h k x y hx hy
  exact ⟨fun q v hv => by have := h1 q v hv; omega, fun q => ⟨by have := (h2 q).1; omega, hw y (List.mem_of_getElem? hy)⟩⟩

/-- The answer by bits. -/
def PhiBits (f : Nat → Bool) (W : Nat) (ga : Option Addr) (gn gc : Nat) (sa : Option Addr) (sn sc : Nat) (w : World) : Prop :=
  ga = none ∧ gn = 0 ∧ gc = 0 ∧ sn = W ∧ sc = W ∧ ∃ gs L, sa = some ⟨gs, 0, none⟩ ∧ Holds w gs W f L

/-- The answer by a list. -/
def PhiList (M : List Int) (ga : Option Addr) (gn _gc : Nat) (sa : Option Addr) (sn sc : Nat) (w : World) : Prop :=
  sa = none ∧ sn = 0 ∧ sc = 0 ∧ gn = M.length ∧ Has w ga (M.map (.int .i64)) ∧ (ga = none ↔ M = [])

/-- The answer to one set. -/
def PhiOne (x y : Sl) (ga : Option Addr) (gn gc : Nat) (sa : Option Addr) (sn sc : Nat) (w : World) : Prop :=
  ga = x.1 ∧ gn = x.2.2.length ∧ gc = x.2.1 ∧ sa = y.1 ∧ sn = y.2.2.length ∧ sc = y.2.1 ∧ Has w x.1 (x.2.2.map (.int .i64)) ∧ Has w y.1 (y.2.2.map (.int .u64))

theorem zz15_one (a0 a1 : Option Addr) (c0 c1 : Nat) (x y : Sl) (z : Int) (w : World) (hH : Hid (Hands w a0 a1 [x] [y])) :
    Calls Try.prog 15 #[.slice a0 1 c0, .slice a1 1 c1, .int .i64 z] w (ZZAny (PhiOne x y) w) := by
  refine zz15_any (PhiOne x y) (fun o q h => ?_) a0 a1 c0 c1 [x] [y] z w (by simp) hH (fun wr hb hS => ?_)
  · obtain ⟨h1, h2, h3, h4, h5, h6, h7, h8⟩ := h
    exact ⟨h1, h2, h3, h4, h5, h6, (h7.below (box_below' _ _)).dr q, (h8.below (box_below' _ _)).dr q⟩
  · obtain ⟨xa, xc, xs⟩ := x
    obtain ⟨ya, yc, ys⟩ := y
    refine (union42_one _ xa xc xs ya yc ys z wr hS).mono ?_
    rintro e w' ⟨rfl, hB⟩
    exact ⟨_, _, _, _, _, _, rfl, ⟨rfl, rfl, rfl, rfl, rfl, rfl, (hS.hI _ (by simp)).below hB, (hS.hS _ (by simp)).below hB⟩, hB⟩

theorem zz15_words (a0 a1 : Option Addr) (c0 c1 : Nat) (Is Ss : List Sl) (n : Nat) (w : World) (hn : n ≤ 65536) (hm : Is.length ≤ 131072) (hm1 : Is.length ≠ 1) (hH : Hands w a0 a1 Is Ss) (htot : total Is ≤ 1048576)
    (hb : (∃ x ∈ Ss, x.1 ≠ none) ∨ ((∀ x ∈ Ss, x.1 = none) ∧ (n + 63) / 64 ≤ total Is)) (hok : UnionOk Is Ss n) (hw : ∀ x ∈ Ss, Words x.2.2) :
    Calls Try.prog 15 #[.slice a0 Is.length c0, .slice a1 Is.length c1, .int .i64 n] w (ZZAny (PhiBits (memTo Is Ss Is.length) ((n + 63) / 64)) w) := by
  refine zz15_any _ (fun o q h => ?_) a0 a1 c0 c1 Is Ss n w hm hH (fun wr hbl hS => ?_)
  · obtain ⟨h1, h2, h3, h4, h5, gs, L, h6, h7⟩ := h
    exact ⟨h1, h2, h3, h4, h5, gs, L, h6, (h7.grow (box_below' _ _)).dr q⟩
  · have hU : Calls Try.prog 42 #[.slice (some ⟨w.heap.size, 0, none⟩) Is.length Is.length, .int .i64 n] wr (UnionBits Is Ss n wr) := by
      rcases hb with hb | ⟨hb1, hb2⟩
      · exact union42_bits _ Is Ss n wr hn hm hm1 hS htot hb (ok_of hok hw)
      · exact union42_total _ Is Ss n wr hn hm hm1 hS htot hb1 hb2 (ok_of hok hw)
    refine hU.mono ?_
    rintro e w' ⟨gs, rfl, ⟨L, hL⟩, hB, hge⟩
    exact ⟨_, _, _, _, _, _, rfl, ⟨rfl, rfl, rfl, rfl, rfl, gs, L, rfl, hL⟩, hB⟩

theorem zz15_list (a0 a1 : Option Addr) (c0 c1 : Nat) (Is Ss : List Sl) (n : Nat) (w : World) (hn : n ≤ 65536) (hm : Is.length ≤ 131072) (hm1 : Is.length ≠ 1) (hH : Hands w a0 a1 Is Ss) (htot : total Is ≤ 1048576)
    (hb1 : ∀ x ∈ Ss, x.1 = none) (hb2 : total Is < (n + 63) / 64) :
    Calls Try.prog 15 #[.slice a0 Is.length c0, .slice a1 Is.length c1, .int .i64 n] w (ZZAny (PhiList (tidy (cat Is))) w) := by
  refine zz15_any _ (fun o q h => ?_) a0 a1 c0 c1 Is Ss n w hm hH (fun wr hbl hS => ?_)
  · obtain ⟨h1, h2, h3, h4, h5, h6⟩ := h
    exact ⟨h1, h2, h3, h4, (h5.below (box_below' _ _)).dr q, h6⟩
  · refine (union42_list _ Is Ss n wr hn hm hm1 hS htot hb1 hb2).mono ?_
    rintro e w' ⟨ga, gc, rfl, hh, hnn, hB⟩
    exact ⟨_, _, _, _, _, _, rfl, ⟨rfl, rfl, rfl, rfl, hh, hnn⟩, hB⟩
end Go.Proofs.Qxb6603130a
