import Derived.Test.Qxb6603130aZZUnion
import Derived.Test.Qxb6603130aAlike
namespace Go.Proofs.Qxb6603130a
open Go.RowKit

/-- The law's arguments. -/
structure LArgs (w : World) (a0 : Option Addr) (c0 : Nat) (cs : List Int) (a1 : Option Addr) (c1 : Nat) (ids : List Int) : Prop where
  h0 : Has w a0 (cs.map (.int .i64))
  h1 : Has w a1 (ids.map (.int .i64))
  n0 : a0 = none → c0 = 0 ∧ cs = []
  n1 : a1 = none → c1 = 0 ∧ ids = []
  l0 : cs.length ≤ maxLen
  l1 : ids.length ≤ maxLen

theorem icap {k : IntKind} {t : TypeId} {w w' : World} {a a' : Option Addr} {zs : List Int} {c' : Nat} (h : ICopy k t w w' a zs a' c') : zs.length ≤ c' := by
  by_cases e : a' = none
  · obtain ⟨_, rfl⟩ := h.hnone e; simp
  · obtain ⟨_, rfl, _⟩ := h.hsome e; exact Nat.le_refl _

theorem zeros_bit (W i : Nat) : bitOf (List.replicate W 0) i = false := by
  unfold bitOf
  rw [List.getD, List.getElem?_replicate]
  split <;> simp [bitZ]

theorem memTo_two (a0 : Option Addr) (c0 : Nat) (cs : List Int) (y : Addr) (W i : Nat) :
    memTo [(a0, c0, cs), (none, 0, [])] [(none, 0, []), (some y, W, List.replicate W 0)] 2 i = decide ((i : Int) ∈ cs) := by
  simp [memTo, mem1, zeros_bit]

theorem has_new (w : World) (l : List Value) (t : TypeId) : Has (w.alloc (.cells l.toArray t)) (some ⟨w.heap.size, 0, none⟩) l :=
  fun j hj => ⟨_, _, rfl, by simp, by simp⟩

/-- The world in which the door to union is called. -/
def W6 (w : World) (a0 : Option Addr) (c0 : Nat) (cs : List Int) (W : Nat) : World :=
  ((w.alloc (.cells (madeCells #[.int .u64 0] W) 62)).alloc (.cells #[.slice a0 cs.length c0, .slice none 0 0] 28)).alloc (.cells #[.slice none 0 0, .slice (some ⟨w.heap.size, 0, none⟩) W W] 29)

theorem w6_below (w : World) (a0 : Option Addr) (c0 : Nat) (cs : List Int) (W : Nat) : Below w.heap.size w (W6 w a0 c0 cs W) :=
  ((box_below' w _).alloc (by simp) _).alloc (by simp; omega) _

theorem hands6 {w : World} {a0 : Option Addr} {c0 : Nat} {cs : List Int} (W : Nat) (hk : Has w a0 (cs.map (.int .i64))) (hn : a0 = none → c0 = 0 ∧ cs = []) :
    Hands (W6 w a0 c0 cs W) (some ⟨w.heap.size + 1, 0, none⟩) (some ⟨w.heap.size + 1 + 1, 0, none⟩) [(a0, c0, cs), (none, 0, [])] [(none, 0, []), (some ⟨w.heap.size, 0, none⟩, W, List.replicate W 0)] := by
  have e1 : (w.alloc (.cells (madeCells #[.int .u64 0] W) 62)).heap.size = w.heap.size + 1 := by simp
  have e2 : ((w.alloc (.cells (madeCells #[.int .u64 0] W) 62)).alloc (.cells #[.slice a0 cs.length c0, .slice none 0 0] 28)).heap.size = w.heap.size + 1 + 1 := by simp
  have em : madeCells #[Value.int .u64 0] W = ((List.replicate W (0 : Int)).map (Value.int .u64)).toArray := by
    rw [← Array.toList_inj, toList_madeCells_one]; simp
  have h0 := (has_new (w.alloc (.cells (madeCells #[.int .u64 0] W) 62)) [.slice a0 cs.length c0, .slice none 0 0] 28).below (box_below' _ (.cells #[.slice none 0 0, .slice (some ⟨w.heap.size, 0, none⟩) W W] 29))
  have h1 := has_new ((w.alloc (.cells (madeCells #[.int .u64 0] W) 62)).alloc (.cells #[.slice a0 cs.length c0, .slice none 0 0] 28)) [.slice none 0 0, .slice (some ⟨w.heap.size, 0, none⟩) W W] 29
  have h2 := ((has_new w ((List.replicate W (0 : Int)).map (Value.int .u64)) 62).below (box_below' _ (.cells #[.slice a0 cs.length c0, .slice none 0 0] 28))).below (box_below' _ (.cells #[.slice none 0 0, .slice (some ⟨w.heap.size, 0, none⟩) W W] 29))
  rw [e1] at h0
  rw [e2] at h1
  rw [← em] at h2
  have hz : ∀ (v : World) (k : IntKind), Has v none (([] : List Int).map (.int k)) := fun v k j hj => absurd hj (by simp)
  refine ⟨rfl, h0, ?_, ?_, ?_, ?_, ?_⟩
  · show Has _ _ [.slice none 0 0, .slice (some ⟨w.heap.size, 0, none⟩) (List.replicate W (0 : Int)).length W]
    rw [List.length_replicate]
    exact h1
  · intro x hx
    simp only [List.mem_cons, List.not_mem_nil, or_false] at hx
    rcases hx with rfl | rfl
    · exact hk.below (w6_below w a0 c0 cs W)
    · exact hz _ _
  · intro x hx
    simp only [List.mem_cons, List.not_mem_nil, or_false] at hx
    rcases hx with rfl | rfl
    · exact hz _ _
    · exact h2
  · intro x hx
    simp only [List.mem_cons, List.not_mem_nil, or_false] at hx
    rcases hx with rfl | rfl
    · exact hn
    · exact fun _ => ⟨rfl, rfl⟩
  · intro x hx
    simp only [List.mem_cons, List.not_mem_nil, or_false] at hx
    rcases hx with rfl | rfl
    · exact fun _ => ⟨rfl, rfl⟩
    · exact fun h => by cases h

theorem ok6 {a0 : Option Addr} {c0 n : Nat} {cs : List Int} {y : Addr} (h : ∀ x ∈ cs, 0 ≤ x ∧ x < (n : Int)) : ∀ (k : Nat) (x y' : Sl), [(a0, c0, cs), (none, 0, [])][k]? = some x → [(none, 0, []), (some y, (n + 63) / 64, List.replicate ((n + 63) / 64) 0)][k]? = some y' →
    (y'.1 = none → ∀ v ∈ x.2.2, 0 ≤ v ∧ v < 64 * (((n + 63) / 64 : Nat) : Int)) ∧ (y'.1 ≠ none → y'.2.2.length ≤ (n + 63) / 64 ∧ Words y'.2.2) := by
  intro k x y' hx hy
  match k, hx, hy with
  | 0, hx, hy =>
    cases hx
    cases hy
    exact ⟨fun _ v hv => by have := h v hv; omega, fun q => absurd rfl q⟩
  | 1, hx, hy =>
    cases hx
    cases hy
    exact ⟨fun q => (by cases q), fun _ => ⟨by simp, fun z hz => by rw [(List.mem_replicate.1 hz).2]; omega⟩⟩
  | k + 2, hx, hy => cases hx

theorem RowU.has {w : World} {g : Nat} {L : List Int} (h : RowU w g L) : Has w (some ⟨g, 0, none⟩) (L.map (.int .u64)) := by
  intro j hj
  refine ⟨_, _, rfl, h.lt, ?_⟩
  have hj' : j < L.length := by simpa using hj
  rw [Nat.zero_add, h.cell hj']
  simp [hj']

theorem door6 (gs W : Nat) (L : List Int) (ia : Option Addr) (ic : Nat) (ids : List Int) (w0 w : World) (i0 : Option Addr) (hW : L.length = W) (hi : ICopy .i64 3 w0 w i0 ids ia ic) (hl2 : W ≤ 1048576) (hl3 : ids.length ≤ 1048576) (hz : Words L)
    (hk2 : Has w (some ⟨gs, 0, none⟩) (L.map (.int .u64))) (hb : gs < w0.heap.size) (hin : ∀ x ∈ ids, 0 ≤ x ∧ x < 64 * (W : Int)) :
    Calls Try.prog 25 #[.slice none 0 0, .slice (some ⟨gs, 0, none⟩) W W, .slice ia ids.length ic] w (AmongRes (fun x => bitOf L x.toNat) ia ids w) := by
  subst hW
  exact door25_set none 0 0 ⟨gs, 0, none⟩ L.length L ia ic ids w0 w i0 hi hl2 hl3 hz hk2 hb hin

theorem filters6 {cs ids L : List Int} {n W : Nat} {w : World} {gs : Nat} (hL : Holds w gs W (fun i => decide ((i : Int) ∈ cs)) L) (hin : ∀ x ∈ ids, 0 ≤ x ∧ x < (n : Int)) (hW : n ≤ 64 * W) :
    ids.filter (fun x => bitOf L x.toNat) = ids.filter (fun x => decide (x ∈ cs)) := by
  apply List.filter_congr
  intro x hx
  obtain ⟨h0, h1⟩ := hin x hx
  rw [hL.bit x.toNat (by omega)]
  simp only [Int.toNat_of_nonneg h0]

theorem grow6 {w6 w7 w8 : World} {a a' wa : Option Addr} {c' : Nat} {ids : List Int} (hi : ICopy .i64 3 w6 w7 a ids wa c') (hg : But (fun k => ∃ x, wa = some x ∧ k = x.block) w7 w8) (_ : a' = a) : Below w6.heap.size w6 w8 :=
  hi.below.trans (hg.below hi.below.size (fun k ⟨x, hx, hk⟩ => by have := (hi.lt hx).1; omega))

theorem end6 {w w1 w2 w6 w8 w10 : World} {q : Nat} {a0 a0' a1 a1' : Option Addr} {c0 c1 : Nat} {cs ids : List Int} (i0 : ICopy .i64 3 (w.drewN q) w1 a0 cs a0' c0) (i1 : ICopy .i64 3 w1 w2 a1 ids a1' c1) (b6 : Below w2.heap.size w2 w6) (b8 : Below w6.heap.size w6 w8) (b10 : Below w8.heap.size w8 w10) : Below w.heap.size w w10 := by
  have s0 := i0.below.size
  have s1 := i1.below.size
  have s6 := b6.size
  have s8 := b8.size
  have e0 : (w.drewN q).heap.size = w.heap.size := rfl
  exact (below_dr (Below.refl _ w) q).trans (i0.below.trans ((i1.below.trans ((b6.trans ((b8.trans (b10.mono s8)).mono s6)).mono s1)).mono (by omega)))

/-- The door, as the law calls it. -/
theorem zz6 (w : World) (a0 : Option Addr) (c0 : Nat) (cs : List Int) (n : Nat) (hn : n ≤ 65536) (hl : cs.length ≤ 1048576) (hk : Has w a0 (cs.map (.int .i64))) (hn0 : a0 = none → c0 = 0 ∧ cs = []) (hin : ∀ x ∈ cs, 0 ≤ x ∧ x < (n : Int)) :
    Calls Try.prog 15 #[.slice (some ⟨w.heap.size + 1, 0, none⟩) 2 2, .slice (some ⟨w.heap.size + 1 + 1, 0, none⟩) 2 2, .int .i64 n] (W6 w a0 c0 cs ((n + 63) / 64)) fun e w' =>
      ∃ gs, e = .returned (.tuple #[.slice none 0 0, .slice (some ⟨gs, 0, none⟩) ((n + 63) / 64) ((n + 63) / 64)]) ∧ (∃ L, Holds w' gs ((n + 63) / 64) (fun i => decide ((i : Int) ∈ cs)) L) ∧ Below w.heap.size w w' ∧ w.heap.size ≤ gs := by
  refine (zz15_bits (some ⟨w.heap.size + 1, 0, none⟩) (some ⟨w.heap.size + 1 + 1, 0, none⟩) 2 2 [(a0, c0, cs), (none, 0, [])] [(none, 0, []), (some ⟨w.heap.size, 0, none⟩, (n + 63) / 64, List.replicate ((n + 63) / 64) 0)] n _ hn (by simp) (by simp) (hands6 _ hk hn0) (by simpa [total] using hl) ⟨(some ⟨w.heap.size, 0, none⟩, (n + 63) / 64, List.replicate ((n + 63) / 64) 0), by simp, by simp⟩ (ok6 hin)).mono ?_
  rintro e w' ⟨gs, rfl, ⟨L, hL⟩, hB, hge⟩
  have hs := (w6_below w a0 c0 cs ((n + 63) / 64)).size
  exact ⟨gs, rfl, ⟨L, hL.congr (fun i _ => memTo_two _ _ _ _ _ _)⟩, (w6_below w a0 c0 cs _).trans (hB.mono hs), by omega⟩

set_option maxRecDepth 100000 in
set_option maxHeartbeats 2000000 in
theorem law6 (a0 : Option Addr) (c0 : Nat) (cs : List Int) (a1 : Option Addr) (c1 : Nat) (ids : List Int) (z : Int) (w : World) (hA : Hid (LArgs w a0 c0 cs a1 c1 ids)) :
    Calls Try.prog 6 #[.slice a0 cs.length c0, .slice a1 ids.length c1, .int .i64 z] w fun e w' => e = .returned (.bool true) ∧ Below w.heap.size w w' := by
  have qnil := fun (w : World) (a : Option Addr) (n c n' c' : Nat) => Lib.run_eql_slice_nil w 29 _ a n c n' c' Try.underlying29
  have qnil2 := fun (w : World) (a : Option Addr) (n c n' c' : Nat) => run_neq_slice_nil_any w 28 _ a n c n' c' Try.underlying28
  go_enter Try.func6, Try.ntmps6
  go_wp2_with fail
  refine (bytes27 a0 cs.length c0 a1 ids.length c1 (.int .i64 z) w hA.out.l0 hA.out.l1).mono ?_
  rintro e w' (⟨rfl, rfl⟩ | ⟨rfl, rfl, b0, b1⟩)
  · go_wp2
    go_ret
    exact ⟨rfl, Below.refl _ _⟩
  by_cases hz : 0 ≤ z ∧ z ≤ 65536
  case neg =>
    go_wp2_with fail
    all_goals try (go_ret; exact ⟨rfl, Below.refl _ _⟩)
    all_goals (exfalso; omega)
  obtain ⟨hz0, hz1⟩ := hz
  obtain ⟨n, rfl⟩ := Int.eq_ofNat_of_zero_le hz0
  have hn : n ≤ 65536 := by omega
  go_wp2_with fail
  all_goals try (go_ret; exact ⟨rfl, Below.refl _ _⟩)
  refine (wf28 a0 c0 cs a1 c1 ids n _ b0 b1 hn hA.out.h0 hA.out.h1).mono ?_
  rintro e w0 (⟨rfl, q, rfl⟩ | ⟨rfl, ⟨q, rfl⟩, hok⟩)
  · go_wp2
    go_ret
    exact ⟨rfl, below_dr (Below.refl _ _) q⟩
  have OK := hid hok
  clear hok
  go_wp2_with fail
  refine (clone23 a0 c0 cs _ b0 hA.out.n0 (hA.out.h0.dr q)).mono ?_
  rintro e w1 ⟨a0', c0', rfl, i0⟩
  have I0 := hid i0
  clear i0
  go_wp2_with fail
  refine (clone23 a1 c1 ids _ b1 hA.out.n1 ((hA.out.h1.dr q).below I0.out.below)).mono ?_
  rintro e w2 ⟨a1', c1', rfl, i1⟩
  have I1 := hid i1
  clear i1
  have hmk := make62_run n hn
  go_wp2_with fail
  refine (zz6 w2 a0' c0' cs n hn b0 (I0.out.has.below I1.out.below) I0.out.hnone OK.out.i0).mono ?_
  rintro e w6 ⟨gs, rfl, ⟨L, hL⟩, hB6, hgs⟩
  have HL := hid hL
  have B6 := hid hB6
  have hgl := hid hL.row.lt
  clear hL hB6
  go_wp2_with fail
  refine (clone23 a1' c1' ids _ b1 I1.out.hnone (I1.out.has.below B6.out)).mono ?_
  rintro e w7 ⟨wa, wc, rfl, i7⟩
  have I7 := hid i7
  clear i7
  go_wp2_with fail
  refine (door25_list a0' c0' cs wa wc ids w6 w7 a1' I7.out b0 (icap I0.out) b1 (((I0.out.has.below I1.out.below).below B6.out).below I7.out.below) (fun x hx => by have := (I0.out.lt hx).2; have := I1.out.below.size; have := B6.out.size; omega) OK.out.r0 OK.out.r1).mono ?_
  rintro e w8 ⟨ga, gc, rfl, hgn, hg1, -, hg3⟩
  have B8 := hid (grow6 I7.out hg3 rfl)
  have G1 := hid hg1
  have N1 := hid (hgn.trans I7.out.hnil)
  clear hgn hg1 hg3 I7
  go_wp2_with fail
  refine (clone23 a1' c1' ids _ b1 I1.out.hnone ((I1.out.has.below B6.out).below B8.out)).mono ?_
  rintro e w9 ⟨wb, wd, rfl, i9⟩
  have I9 := hid i9
  clear i9
  go_wp2_with fail
  refine (door6 gs ((n + 63) / 64) L wb wd ids w8 w9 a1' HL.out.len I9.out (by omega) b1 HL.out.words ((HL.out.row.has.below B8.out).below I9.out.below) (by have := hgl.out; have := B8.out.size; omega) (fun x hx => by have := OK.out.i1 x hx; omega)).mono ?_
  rintro e w10 ⟨gb, gd, rfl, hgn, hg1, -, hg3⟩
  rw [filters6 HL.out OK.out.i1 (by omega)] at hg1 ⊢
  have hfl := List.length_filter_le (fun x => decide (x ∈ cs)) ids
  have B10 := hid (grow6 I9.out hg3 rfl)
  have G2 := hid hg1
  have N2 := hid (hgn.trans I9.out.hnil)
  have hnn : ga.isNone = gb.isNone := by
    have h := N1.out.trans N2.out.symm
    cases ga <;> cases gb <;> simp at h ⊢
  have BB := hid (end6 I0.out I1.out B6.out B8.out B10.out)
  clear hgn hg1 hg3 I9
  generalize ids.filter (fun x => decide (x ∈ cs)) = F at *
  go_wp2_with fail
  refine (same16 ga gc gb gd F w10 (by omega) hnn (G1.out.below B10.out) G2).mono ?_
  rintro e w11 ⟨rfl, m, rfl⟩
  go_wp2
  go_ret
  exact ⟨rfl, below_dr BB.out m⟩
end Go.Proofs.Qxb6603130a
