import Derived.Test.Qxb6603130aKeepList
import Derived.Test.Qxb6603130aClones
namespace Go.Proofs.Qxb6603130a
open Go.RowKit

/-- A copy of a slice of numbers: new memory, the same numbers, nil just where the old one is. -/
structure ICopy (k : IntKind) (t : TypeId) (w w' : World) (a : Option Addr) (zs : List Int) (a' : Option Addr) (c' : Nat) : Prop where
  below : Below w.heap.size w w'
  has : Has w' a' (zs.map (.int k))
  hnil : a' = none ↔ a = none
  hnone : a' = none → c' = 0 ∧ zs = []
  hsome : a' ≠ none → a' = some ⟨w.heap.size, 0, none⟩ ∧ c' = zs.length ∧ w'.heap[w.heap.size]? = some (.cells (zs.map (Value.int k)).toArray t (0, 0))

theorem icopy_nil (k : IntKind) (t : TypeId) (w : World) : ICopy k t w w none [] none 0 :=
  ⟨Below.refl _ _, fun j hj => absurd hj (by simp), by simp, fun _ => ⟨rfl, rfl⟩, fun h => absurd rfl h⟩

theorem icopy_some (k : IntKind) (t : TypeId) (w : World) (x : Addr) (zs : List Int) : ICopy k t w (w.alloc (.cells (zs.map (Value.int k)).toArray t)) (some x) zs (some ⟨w.heap.size, 0, none⟩) zs.length := by
  refine ⟨(Below.refl _ _).alloc (Nat.le_refl _) _, ?_, by simp, (fun h => by cases h), fun _ => ⟨rfl, rfl, (MapKept.heap_alloc w _).1⟩⟩
  intro j hj
  exact ⟨_, _, rfl, by simp, by simp⟩

theorem clone23 (a : Option Addr) (c : Nat) (zs : List Int) (w : World) (hl : zs.length ≤ 1048576) (hn : a = none → c = 0 ∧ zs = []) (hc : Hid (Has w a (zs.map (.int .i64)))) :
    Calls Try.prog 23 #[.slice a zs.length c] w fun e w' => ∃ a' c', e = .returned (.slice a' zs.length c') ∧ ICopy .i64 3 w w' a zs a' c' := by
  cases a with
  | none =>
    obtain ⟨rfl, rfl⟩ := hn rfl
    refine (clone23_nil w).mono ?_
    rintro e w' ⟨rfl, rfl⟩
    exact ⟨none, 0, rfl, icopy_nil _ _ _⟩
  | some x =>
    refine (clone23_some x c zs w hl hc).mono ?_
    rintro e w' ⟨rfl, rfl⟩
    exact ⟨_, _, rfl, icopy_some _ _ _ _ _⟩

theorem clone24 (a : Option Addr) (c : Nat) (zs : List Int) (w : World) (hl : zs.length ≤ 1048576) (hn : a = none → c = 0 ∧ zs = []) (hc : Hid (Has w a (zs.map (.int .u64)))) :
    Calls Try.prog 24 #[.slice a zs.length c] w fun e w' => ∃ a' c', e = .returned (.slice a' zs.length c') ∧ ICopy .u64 62 w w' a zs a' c' := by
  cases a with
  | none =>
    obtain ⟨rfl, rfl⟩ := hn rfl
    refine (clone24_nil w).mono ?_
    rintro e w' ⟨rfl, rfl⟩
    exact ⟨none, 0, rfl, icopy_nil _ _ _⟩
  | some x =>
    refine (clone24_some x c zs w hl hc).mono ?_
    rintro e w' ⟨rfl, rfl⟩
    exact ⟨_, _, rfl, icopy_some _ _ _ _ _⟩

/-- What the door to among gives. -/
def AmongRes (p : Int → Bool) (wa : Option Addr) (ids : List Int) (w : World) (e : Ending) (w' : World) : Prop :=
  ∃ ga gc, e = .returned (.slice ga (ids.filter p).length gc) ∧ (ga = none ↔ wa = none) ∧ Has w' ga ((ids.filter p).map (.int .i64)) ∧ Has w' wa ((mix ids (ids.filter p)).map (.int .i64)) ∧ But (fun k => ∃ x, wa = some x ∧ k = x.block) w w'

theorem mix_head {ids F : List Int} {j : Nat} {x : Int} (h : F[j]? = some x) : (mix ids F)[j]? = some x := by
  unfold mix
  rw [List.getElem?_append_left (List.getElem?_eq_some_iff.1 h).1]
  exact h

theorem amongRes_of {p : Int → Bool} {g : Nat} {ids : List Int} {w : World} {e : Ending} {w' : World} (h : Among p g ids w e w') : AmongRes p (some ⟨g, 0, none⟩) ids w e w' := by
  obtain ⟨rfl, hR, hB⟩ := h
  exact ⟨_, _, rfl, by simp, hR.has _ (fun j x h => mix_head h), hR.has _ (fun j x h => h), hB.mono (fun k hk => ⟨_, rfl, hk⟩)⟩

set_option maxRecDepth 100000 in
set_option maxHeartbeats 400000 in
theorem among44_nil (ci si : Value) (sa : Option Addr) (sn sc : Nat) (hsi : si = .slice sa sn sc) (p : Int → Bool) (w : World) :
    Calls Try.prog 44 #[.agg #[ci, si], .slice none 0 0] w (AmongRes p none [] w) := by
  subst hsi
  have qnil := fun (w : World) (a : Option Addr) (n c n' c' : Nat) => run_neq_slice_nil_any w 29 _ a n c n' c' Try.underlying29
  cases sa with
  | none =>
    go_enter Try.func44, Try.ntmps44
    go_wp2
    refine wp_loop_rounds 1 ?_
    rw [rounds_succ]
    go_wp2
    go_ret
    exact ⟨none, 0, rfl, by simp, fun j hj => absurd hj (by simp), fun j hj => absurd hj (by simp [mix]), But.of_below (box_below' w _)⟩
  | some x =>
    go_enter Try.func44, Try.ntmps44
    go_wp2
    refine wp_loop_rounds 1 ?_
    rw [rounds_succ]
    go_wp2
    go_ret
    exact ⟨none, 0, rfl, by simp, fun j hj => absurd hj (by simp), fun j hj => absurd hj (by simp [mix]), But.of_below (box_below' w _)⟩

set_option maxRecDepth 100000 in
set_option maxHeartbeats 400000 in
theorem door25 (ca : Option Addr) (cn cc : Nat) (sa : Option Addr) (sn sc : Nat) (ia : Option Addr) (ni ic : Nat) (p : Int → Bool) (ids : List Int) (w : World)
    (h : Hid (Calls Try.prog 44 #[.agg #[.slice ca cn cc, .slice sa sn sc], .slice ia ni ic] w (AmongRes p ia ids w))) :
    Calls Try.prog 25 #[.slice ca cn cc, .slice sa sn sc, .slice ia ni ic] w (AmongRes p ia ids w) := by
  go_enter Try.func25, Try.ntmps25
  go_wp2_with fail
  refine h.out.mono ?_
  rintro e w' ⟨ga, gc, rfl, hr⟩
  have HR := hid hr
  clear hr
  go_wp2
  go_ret
  exact ⟨ga, gc, rfl, HR.out⟩

/-- The door, called with bits. -/
theorem door25_set (ca : Option Addr) (cn cc : Nat) (x2 : Addr) (c2 : Nat) (zs : List Int) (ia : Option Addr) (ic : Nat) (ids : List Int) (w0 w : World) (i0 : Option Addr) (hi : ICopy .i64 3 w0 w i0 ids ia ic) (hl2 : zs.length ≤ 1048576) (hl3 : ids.length ≤ 1048576) (hz : Words zs)
    (hk2 : Has w (some x2) (zs.map (.int .u64))) (hb : x2.block < w0.heap.size) (hin : ∀ x ∈ ids, 0 ≤ x ∧ x < 64 * (zs.length : Int)) :
    Calls Try.prog 25 #[.slice ca cn cc, .slice (some x2) zs.length c2, .slice ia ids.length ic] w (AmongRes (fun x => bitOf zs x.toNat) ia ids w) := by
  apply door25
  by_cases hn : ia = none
  · obtain ⟨rfl, rfl⟩ := hi.hnone hn
    subst hn
    exact among44_nil _ _ _ _ _ rfl _ w
  · obtain ⟨rfl, rfl, hr⟩ := hi.hsome hn
    exact (among44_set _ x2 c2 zs w0.heap.size ids w hl2 hl3 hz hk2 (by show x2.block ≠ _; omega) hr hin).mono (fun e w' h => amongRes_of h)

/-- The door, called with a list. -/
theorem door25_list (ca : Option Addr) (cc : Nat) (cs : List Int) (ia : Option Addr) (ic : Nat) (ids : List Int) (w0 w : World) (i0 : Option Addr) (hi : ICopy .i64 3 w0 w i0 ids ia ic) (hl2 : cs.length ≤ 1048576) (hcc : cs.length ≤ cc) (hl3 : ids.length ≤ 1048576)
    (hk2 : Has w ca (cs.map (.int .i64))) (hb : ∀ x, ca = some x → x.block < w0.heap.size) (hr1 : Rising cs) (hr2 : Rising ids) :
    Calls Try.prog 25 #[.slice ca cs.length cc, .slice none 0 0, .slice ia ids.length ic] w (AmongRes (fun x => decide (x ∈ cs)) ia ids w) := by
  apply door25
  by_cases hn : ia = none
  · obtain ⟨rfl, rfl⟩ := hi.hnone hn
    subst hn
    exact among44_nil _ _ _ _ _ rfl _ w
  · obtain ⟨rfl, rfl, hr⟩ := hi.hsome hn
    exact (among44_list ca cc cs w0.heap.size ids w hl2 hcc hl3 hk2 (fun x hx => by have := hb x hx; omega) hr hr1 hr2).mono (fun e w' h => amongRes_of h)
end Go.Proofs.Qxb6603130a
