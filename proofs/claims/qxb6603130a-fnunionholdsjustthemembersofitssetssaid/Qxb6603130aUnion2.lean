import Derived.Test.Qxb6603130aPlain5
import Derived.Laws.AppendOwnNone
import Derived.OwnWalk
namespace Go.Proofs.Qxb6603130a
open Go.RowKit

theorem owns_below {w w' : World} {base : Nat} {e : TypeId} {v : Value} {n : Nat} {xs : List Value} (h : w.ownsRow base e 1 v n xs) (hb : Below w.heap.size w w') : w'.ownsRow base e 1 v n xs := by
  refine ⟨h.1, ?_⟩
  rcases h.2 with h | ⟨g, cap, cur, rfl, h1, h2, h3⟩
  · exact .inl h
  · exact .inr ⟨g, cap, cur, rfl, h1, (hb.block g (Array.getElem?_eq_some_iff.1 h2).1).trans h2, h3⟩

theorem owns_has {w : World} {base : Nat} {e : TypeId} {a : Option Addr} {n c : Nat} {xs : List Value} (h : w.ownsRow base e 1 (.slice a n c) n xs) : Has w a xs := by
  intro j hj
  rcases h.2 with ⟨_, h0⟩ | ⟨g, cap, cur, e0, h1, h2, h3, h4, h5, h6⟩
  · have := h.1; omega
  · cases e0
    refine ⟨g, 0, rfl, (Array.getElem?_eq_some_iff.1 h2).1, ?_⟩
    have hj' : j < n * 1 := by have := h.1; omega
    rw [Nat.zero_add, ← h6, List.getElem?_take, if_pos hj', Array.getElem?_toList]
    simp [World.cell?, h2]

/-- append(all, ids...). -/
theorem wpList_cat {ops : Array Oper} {rest : List Oper} {o : Oper} {a : Act} {Q : Exit → Act → World → Prop} (w : World) (hgd : o.guard = none) (sl x : Operand)
    (ho : o.op = .call { callee := .builtin .append, args := #[sl, x], argTypes := #[28, 28] })
    (base : Nat) (v : Value) (n : Nat) (xs : List Value) (hs : a.eval sl = v) (hown : w.ownsRow base 3 1 v n xs) (ya : Option Addr) (c : Nat) (zs : List Int) (hx : a.eval x = .slice ya zs.length c) (hz : Has w ya (zs.map (.int .i64)))
    (hn : ya = none → c = 0 ∧ zs = []) (hb : n + zs.length ≤ 1048576) (hbase : base ≤ w.heap.size)
    (h : ∀ v' w', w'.ownsRow base 3 1 v' (n + zs.length) (xs ++ zs.map (.int .i64)) → w.grownBy w' v.ownBlock → (v' = .slice none 0 0 ↔ v = .slice none 0 0 ∧ zs.length = 0) → wpList Try.prog ops Q rest (a.put o.dst v') w') : wpList Try.prog ops Q (o :: rest) a w := by
  obtain ⟨i, hi, h0, h1, h2⟩ := info_parts Try.info3
  cases ya with
  | none =>
    obtain ⟨rfl, rfl⟩ := hn rfl
    exact wpList_append_own_none hgd sl x 28 ho base 3 i 1 Try.underlying28 hi v n xs hs hown hx (h v w (by simpa using hown) ⟨rfl, rfl, rfl, Nat.le_refl _, fun _ _ _ => rfl⟩ (by simp))
  | some ad =>
    refine wpList_append_own w hgd sl x 28 ho base 3 i (.int .i64 0) 1 8 Try.underlying28 hi h0 h1 h2 rfl (by omega) v n xs hs hown ad zs.length c (zs.map (.int .i64)) hx (by simp) (fun j u hu => ?_) (fun u hu => ?_) (by unfold maxLen; omega) (by omega) hbase h
    · have hj := (List.getElem?_eq_some_iff.1 hu).1
      obtain ⟨b, off, e, _, hc⟩ := hz j hj
      cases e
      have e2 : (⟨b, off, none⟩ : Addr).add j = ⟨b, off + j, none⟩ := by unfold Addr.add; split <;> simp_all
      rw [e2, hc]
      exact hu
    · obtain ⟨z, _, rfl⟩ := List.mem_map.1 hu
      rfl

/-- What union answers when it answers by a list. -/
def UnionList (M : List Int) (w : World) (e : Ending) (w' : World) : Prop :=
  ∃ ga gc, e = .returned (.agg #[.slice ga M.length gc, .slice none 0 0]) ∧ Has w' ga (M.map (.int .i64)) ∧ (ga = none ↔ M = []) ∧ Below w.heap.size w w'

theorem tidy_nil {l : List Int} : tidy l = [] ↔ l = [] := by
  obtain ⟨h1, _⟩ := tidy_laws l
  constructor
  · intro h
    apply List.eq_nil_iff_forall_not_mem.2
    intro x hx
    have := (h1 x).2 hx
    rw [h] at this
    cases this
  · intro h
    apply List.eq_nil_iff_forall_not_mem.2
    intro x hx
    have := (h1 x).1 hx
    rw [h] at this
    cases this

theorem has_boxed {w w6 : World} {a : Option Addr} {xs : List Value} {u0 u1 : Value} (h : Has w6 a xs) (hf : ∀ x, a = some x → w.heap.size < x.block) :
    Has ((w6.setCell ⟨w.heap.size, 0, none⟩ u0).setCell ⟨w.heap.size, 1, none⟩ u1) a xs := by
  intro j hj
  obtain ⟨b, off, rfl, hb, hc⟩ := h j hj
  have hbb := hf _ rfl
  simp only at hbb
  refine ⟨b, off, rfl, by simpa [World.setCell] using hb, ?_⟩
  rw [World.cell?_setCell_other _ _ _ _ (by intro q; simp only [Addr.mk.injEq] at q; omega), World.cell?_setCell_other _ _ _ _ (by intro q; simp only [Addr.mk.injEq] at q; omega)]
  exact hc

/-- The slice behind the sort. -/
theorem owns_sorted {w : World} {base g cap q : Nat} {l : List Int} {os : Array Obj} (h : w.ownsRow base 3 1 (.slice (some ⟨g, 0, none⟩) l.length cap) l.length (l.map (.int .i64))) :
    (Go.Sort.grow (Go.Sort.putRow (Value.int .i64) (Go.Sort.ahead w q) g 0 (l.mergeSort fun x y => decide (x ≤ y)).toArray) os).ownsRow base 3 1 (.slice (some ⟨g, 0, none⟩) l.length cap) l.length ((l.mergeSort fun x y => decide (x ≤ y)).map (.int .i64)) := by
  have h1 := Lib.ownsRow_putRow (q := q) (k := l.length) (ys := l.mergeSort fun x y => decide (x ≤ y)) h (List.length_mergeSort _) (Nat.le_refl _)
  rw [List.take_of_length_le (by rw [List.length_mergeSort]; exact Nat.le_refl _)] at h1
  exact owns_below h1 (below_grow _ _)

theorem owns_compact {w : World} {base g cap q : Nat} {l : List Int} (h : w.ownsRow base 3 1 (.slice (some ⟨g, 0, none⟩) l.length cap) l.length (l.map (.int .i64))) :
    (Go.Sort.putRow (Value.int .i64) (Go.Sort.ahead w q) g 0 (Lib.compact l ++ List.replicate (l.length - (Lib.compact l).length) 0).toArray).ownsRow base 3 1 (.slice (some ⟨g, 0, none⟩) (Lib.compact l).length cap) (Lib.compact l).length ((Lib.compact l).map (.int .i64)) := by
  have hl := Lib.compact_length_le l
  have h1 := Lib.ownsRow_putRow (q := q) (k := (Lib.compact l).length) (ys := Lib.compact l ++ List.replicate (l.length - (Lib.compact l).length) 0) h (by simp; omega) hl
  rwa [List.take_left'] at h1
  rfl

theorem below_sorted {w0 w : World} {B g q : Nat} {l : List Int} {os : Array Obj} (h : Below B w0 w) (hg : B ≤ g) (hw : B ≤ w.heap.size) : Below B w0 (Go.Sort.grow (Go.Sort.putRow (Value.int .i64) (Go.Sort.ahead w q) g 0 l.toArray) os) := by
  have h1 := Lib.below_putRow (enc := Value.int .i64) (q := q) (d := l.toArray) h hg
  have hs : (Go.Sort.putRow (Value.int .i64) (Go.Sort.ahead w q) g 0 l.toArray).heap.size = w.heap.size := by simp [Go.Sort.putRow, Go.Sort.mapBlock, Go.Sort.ahead]
  exact h1.trans ((below_grow _ _).mono (by omega))

theorem sort47 {base : Nat} {v : Value} {l : List Int} {w w0 : World} (hown : w.ownsRow base 3 1 v l.length (l.map (.int .i64))) (hl : l.length ≤ 1048576) (hB : Below base w0 w) (hbase : base ≤ w.heap.size) :
    Calls Try.prog 47 #[v] w fun e w' => e = .returned (.tuple #[]) ∧ w'.ownsRow base 3 1 v (l.mergeSort fun x y => decide (x ≤ y)).length ((l.mergeSort fun x y => decide (x ≤ y)).map (.int .i64)) ∧ Below base w0 w' ∧ base ≤ w'.heap.size := by
  by_cases hv : v = .slice none 0 0
  · subst hv
    have h0 : l = [] := by
      rcases hown.2 with ⟨_, h⟩ | ⟨g, cap, cur, h, _⟩
      · exact List.eq_nil_of_length_eq_zero h
      · cases h
    subst h0
    refine (Try.slices_Sort_int_none none 0 w).mono ?_
    rintro e w' ⟨rfl, rfl⟩
    exact ⟨rfl, by simpa using hown, hB, hbase⟩
  · obtain ⟨g, cap, rfl, hb, hg, hc, hm, hn, hh⟩ := Lib.holds_of_ownsRow hown hv
    refine (Try.slices_Sort_int g 0 cap l w hh hg (by omega)).mono ?_
    rintro e w' ⟨rfl, q, os, rfl⟩
    have hs : (Go.Sort.putRow (Value.int .i64) (Go.Sort.ahead w q) g 0 (l.mergeSort fun x y => decide (x ≤ y)).toArray).heap.size = w.heap.size := by simp [Go.Sort.putRow, Go.Sort.mapBlock, Go.Sort.ahead]
    have ho := owns_sorted (q := q) (os := os) hown
    refine ⟨rfl, ?_, below_sorted hB hb hbase, by have := (below_grow (Go.Sort.putRow (Value.int .i64) (Go.Sort.ahead w q) g 0 (l.mergeSort fun x y => decide (x ≤ y)).toArray) os).size; omega⟩
    rw [List.length_mergeSort]
    exact ho

theorem compact48 {base : Nat} {v : Value} {l : List Int} {w w0 : World} (hown : w.ownsRow base 3 1 v l.length (l.map (.int .i64))) (hl : l.length ≤ 1048576) (hB : Below base w0 w) (hbase : base ≤ w.heap.size) :
    Calls Try.prog 48 #[v] w fun e w' => ∃ ga gc, e = .returned (.slice ga (Lib.compact l).length gc) ∧ (ga = none ↔ v = .slice none 0 0) ∧ Has w' ga ((Lib.compact l).map (.int .i64)) ∧ Below base w0 w' ∧ base ≤ w'.heap.size ∧ (∀ x, ga = some x → base ≤ x.block) := by
  by_cases hv : v = .slice none 0 0
  · subst hv
    have h0 : l = [] := by
      rcases hown.2 with ⟨_, h⟩ | ⟨g, cap, cur, h, _⟩
      · exact List.eq_nil_of_length_eq_zero h
      · cases h
    subst h0
    refine (Try.slices_Compact_int_empty none 0 w).mono ?_
    rintro e w' ⟨rfl, rfl⟩
    exact ⟨none, 0, rfl, by simp, fun j hj => absurd hj (by simp [Lib.compact, Lib.compactUpTo]), hB, hbase, fun x hx => by cases hx⟩
  · obtain ⟨g, cap, rfl, hb, hg, hc, hm, hn, hh⟩ := Lib.holds_of_ownsRow hown hv
    refine (Try.slices_Compact_int g 0 cap l w hh (by omega) hc).mono ?_
    rintro e w' ⟨rfl, q, rfl⟩
    have ho := owns_compact (q := q) hown
    exact ⟨_, _, rfl, by simp, owns_has ho, Lib.below_putRow hB hb, by simpa [Go.Sort.putRow, Go.Sort.mapBlock, Go.Sort.ahead] using hbase, fun x hx => by cases hx; exact hb⟩

set_option maxRecDepth 100000 in
set_option maxHeartbeats 4000000 in
theorem union42_total (g : Nat) (Is Ss : List Sl) (n : Nat) (w : World) (hn : n ≤ 65536) (hm : Is.length ≤ 131072) (hm1 : Is.length ≠ 1) (hS : Hid (Sets w g Is Ss)) (htot : total Is ≤ 1048576)
    (hb : Hid (∀ x ∈ Ss, x.1 = none)) (hbig : (n + 63) / 64 ≤ total Is) (hok : Hid (∀ (k : Nat) (x y : Sl), Is[k]? = some x → Ss[k]? = some y → (y.1 = none → ∀ v ∈ x.2.2, 0 ≤ v ∧ v < 64 * (((n + 63) / 64 : Nat) : Int)) ∧ (y.1 ≠ none → y.2.2.length ≤ (n + 63) / 64 ∧ Words y.2.2))) :
    Calls Try.prog 42 #[.slice (some ⟨g, 0, none⟩) Is.length Is.length, .int .i64 n] w (UnionBits Is Ss n w) := by
  have qnil := fun (w : World) (a : Option Addr) (n c n' c' : Nat) => run_neq_slice_nil_any w 29 _ a n c n' c' Try.underlying29
  have h1 : ((Is.length : Int) == 1) = false := beq_eq_false_iff_ne.2 (by omega)
  go_enter Try.func42, Try.ntmps42
  go_wp2
  have W0 := hid (box_below' w (.cells #[.slice none 0 0, .slice none 0 0] 60))
  go_loopw [6, 30] (fun h i wr => ∃ (k : Nat), k ≤ Is.length ∧ i = .int .i64 k ∧ h = .int .i64 (total (Is.take k)) ∧ Hid (∀ (j : Nat) (x : Sl), j < k → Ss[j]? = some x → x.1 = none) ∧ Hid (Below (w.heap.size + 1) (w.alloc (.cells #[.slice none 0 0, .slice none 0 0] 60)) wr)) (fun _ i _ => Is.length - (intOf i).toNat)
  case atStart => exact ⟨0, Nat.zero_le _, rfl, rfl, fun j x hj => by omega, Below.refl _ _⟩
  case round =>
    obtain ⟨k, hk1, rfl, rfl, hnone, hB⟩ := hrel
    by_cases hlt : k < Is.length
    · obtain ⟨⟨xa, xc, xs⟩, hx⟩ : ∃ x, Is[k]? = some x := ⟨_, List.getElem?_eq_getElem hlt⟩
      obtain ⟨⟨ya, yc, ys⟩, hy⟩ : ∃ x, Ss[k]? = some x := ⟨_, List.getElem?_eq_getElem (by rw [← hS.out.len]; exact hlt)⟩
      have hglt := hS.out.lt
      have hold : ∀ o, wr.cell? ⟨g, o, none⟩ = w.cell? ⟨g, o, none⟩ := fun o => (hB.out.cell (by show g < _; omega)).trans (W0.out.cell hglt)
      have hc0 : wr.cell? ⟨g, k * 2, none⟩ = some (.slice xa xs.length xc) := (hold _).trans (hS.out.ids k _ hx)
      have hc1 : wr.cell? ⟨g, k * 2 + 1, none⟩ = some (.slice ya ys.length yc) := (hold _).trans (hS.out.set k _ hy)
      have ht1 := total_take hx
      have ht2 := total_le (k + 1) Is
      have HX := hid hx
      have HY := hid hy
      simp only at ht1
      have HT := hid ht1
      have hsum : total (Is.take k) + xs.length ≤ 1048576 := by omega
      clear hx hy hold ht1 ht2
      cases ya with
      | none =>
        go_wp2
        exact ⟨⟨k + 1, by omega, by go_num, by rw [HT.out]; go_num, fun j x hj hx => by
          by_cases e : j = k
          · subst e; rw [HY.out] at hx; cases hx; rfl
          · exact hnone.out j x (by omega) hx, hB.out.alloc (by have := hB.out.size; simp at this; omega) _⟩, by simp [intOf]; omega⟩
      | some y => exact absurd (hb.out _ (List.mem_of_getElem? HY.out)) (by simp)
    · have hIt := total_all Is (k := k) (by omega)
      rw [hIt]
      have hbi : ((n : Int) + 63) / 64 ≤ (total Is : Int) := by omega
      clear hIt
      obtain ⟨gs, hgs⟩ : ∃ gs, wr.heap.size = gs := ⟨_, rfl⟩
      have hgs1 : w.heap.size + 1 ≤ gs := by have := hB.out.size; simp at this; omega
      have hmk := make62_run n hn
      have hst := hid (show ∃ L, Holds (wr.alloc (.cells (madeCells #[.int .u64 0] ((n + 63) / 64)) 62)) gs ((n + 63) / 64) (memTo Is Ss 0) L from ⟨_, holds_made' _ _ hgs⟩)
      have hbt := hid (show Below (w.heap.size + 1) (w.alloc (.cells #[.slice none 0 0, .slice none 0 0] 60)) (wr.alloc (.cells (madeCells #[.int .u64 0] ((n + 63) / 64)) 62)) from hB.out.alloc (by have := hB.out.size; simp at this; omega) _)
      go_wp2
      go_loopw [67] (fun i wq => ∃ (k : Nat), k ≤ Is.length ∧ i = .int .i64 k ∧ Hid (∃ L, Holds wq gs ((n + 63) / 64) (memTo Is Ss k) L) ∧ Hid (Below (w.heap.size + 1) (w.alloc (.cells #[.slice none 0 0, .slice none 0 0] 60)) wq)) (fun i _ => Is.length - (intOf i).toNat)
      case atStart => exact ⟨0, Nat.zero_le _, rfl, hst, hbt⟩
      case round =>
        clear hB hst hbt hnone hk1 hlt hgs
        obtain ⟨k, hk1, rfl, hL, hB⟩ := hrel
        have hold : ∀ o, wr.cell? ⟨g, o, none⟩ = w.cell? ⟨g, o, none⟩ := fun o => (hB.out.cell (by show g < _; have := hS.out.lt; omega)).trans (W0.out.cell hS.out.lt)
        have hBw := hid (W0.out.trans (hB.out.mono (Nat.le_succ _)))
        by_cases hlt : k < Is.length
        · obtain ⟨⟨xa, xc, xs⟩, hx⟩ : ∃ x, Is[k]? = some x := ⟨_, List.getElem?_eq_getElem hlt⟩
          obtain ⟨⟨ya, yc, ys⟩, hy⟩ : ∃ x, Ss[k]? = some x := ⟨_, List.getElem?_eq_getElem (by rw [← hS.out.len]; exact hlt)⟩
          have hc0 : wr.cell? ⟨g, k * 2, none⟩ = some (.slice xa xs.length xc) := (hold _).trans (hS.out.ids k _ hx)
          have hc1 : wr.cell? ⟨g, k * 2 + 1, none⟩ = some (.slice ya ys.length yc) := (hold _).trans (hS.out.set k _ hy)
          have hxm := List.mem_of_getElem? hx
          have hym := List.mem_of_getElem? hy
          have hxl : xs.length ≤ 1048576 := Nat.le_trans (total_mem hxm) htot
          have hms := hid (fun i => memTo_succ hx hy i)
          have hxh := hid (hS.out.hI _ hxm)
          have hyh := hid (hS.out.hS _ hym)
          have hokk := hid (hok.out k _ _ hx hy)
          clear hold hx hy hxm hym
          cases ya with
          | none =>
            have hin := hid (hokk.out.1 rfl)
            go_wp2
            go_loopw [93] (fun i wq => ∃ (q : Nat), q ≤ xs.length ∧ i = .int .i64 q ∧ Hid (∃ L, Holds wq gs ((n + 63) / 64) (fun i => memTo Is Ss k i || decide ((i : Int) ∈ xs.take q)) L) ∧ Hid (Below (w.heap.size + 1) (w.alloc (.cells #[.slice none 0 0, .slice none 0 0] 60)) wq)) (fun i _ => xs.length - (intOf i).toNat)
            case atStart => exact ⟨0, Nat.zero_le _, rfl, holds_next hL.out (fun i => by simp), hB.out.alloc (by have := hB.out.size; simp at this; omega) _⟩
            case round =>
              clear hL hB hc0 hc1 hyh hBw
              obtain ⟨q, hq1, rfl, hL, hB⟩ := hrel
              by_cases hqt : q < xs.length
              · obtain ⟨xv, hxv⟩ : ∃ x, xs[q]? = some x := ⟨_, List.getElem?_eq_getElem hqt⟩
                obtain ⟨hv0, hv1⟩ := hin.out xv (List.mem_of_getElem? hxv)
                obtain ⟨xn, rfl⟩ := Int.eq_ofNat_of_zero_le hv0
                obtain ⟨b, off, rfl, hb, hcell⟩ := (hxh.out.below (W0.out.trans (hB.out.mono (Nat.le_succ _)))).at (k := q) (x := .int .i64 xn) (by simp [hxv])
                obtain ⟨L, hLL⟩ := hL.out
                have hxq : xn / 64 < L.length := by have := hLL.len; omega
                have hxq2 : xn / 64 < (n + 63) / 64 := by omega
                have hxq3 : (xn : Int) / 64 < ((n : Int) + 63) / 64 := by omega
                have hcl := hLL.row.cell hxq
                have hfr := hLL.row.free (xn / 64)
                have hor := hLL.or (xn / 64) hxq (IntKind.u64.wrap (2 ^ (xn % 64))) (wrap_pow_range _).1 (wrap_pow_range _).2
                have hnx := hid (holds_drew (holds_ids hor hxv))
                clear hor hxv hLL hL
                go_wp2
                go_region
                go_wp2
                exact ⟨⟨q + 1, by omega, by go_num, hnx.out, (hB.out.setCell (by omega) _).drew⟩, by simp [intOf]; omega⟩
              · have hfin := hid (holds_end hL.out (show xs.take q = xs from List.take_of_length_le (by omega)) hms.out)
                go_wp2
                exact ⟨⟨k + 1, by omega, by go_num, hfin, hB⟩, by simp [intOf]; omega⟩
          | some y =>
            obtain ⟨hyl, hyw⟩ := hokk.out.2 (by simp)
            have hyw := hid hyw
            simp only at hyl
            go_wp2
            go_loopw [77] (fun i wq => ∃ (q : Nat), q ≤ ys.length ∧ i = .int .i64 q ∧ Hid (∃ L, Holds wq gs ((n + 63) / 64) (fun i => memTo Is Ss k i || (decide (i / 64 < q) && bitOf ys i)) L) ∧ Hid (Below (w.heap.size + 1) (w.alloc (.cells #[.slice none 0 0, .slice none 0 0] 60)) wq)) (fun i _ => ys.length - (intOf i).toNat)
            case atStart => exact ⟨0, Nat.zero_le _, rfl, holds_next hL.out (fun i => by simp), hB.out.alloc (by have := hB.out.size; simp at this; omega) _⟩
            case round =>
              clear hL hB hc0 hc1 hxh hBw
              obtain ⟨q, hq1, rfl, hL, hB⟩ := hrel
              by_cases hqt : q < ys.length
              · obtain ⟨z, hzv⟩ : ∃ x, ys[q]? = some x := ⟨_, List.getElem?_eq_getElem hqt⟩
                obtain ⟨hz0, hz1⟩ := hyw.out z (List.mem_of_getElem? hzv)
                obtain ⟨b, off, hya, hb, hcell⟩ := (hyh.out.below (W0.out.trans (hB.out.mono (Nat.le_succ _)))).at (k := q) (x := .int .u64 z) (by simp [hzv])
                obtain rfl := Option.some.inj hya
                obtain ⟨L, hLL⟩ := hL.out
                have hxq : q < L.length := by have := hLL.len; omega
                have hxq2 : q < (n + 63) / 64 := by omega
                have hxq3 : (q : Int) < ((n : Int) + 63) / 64 := by omega
                have hcl := hLL.row.cell hxq
                have hfr := hLL.row.free q
                have hor := hLL.or q hxq z hz0 hz1
                have hnx := hid (holds_words hor hzv)
                clear hor hzv hLL hL
                go_wp2
                exact ⟨⟨q + 1, by omega, by go_num, hnx.out, hB.out.setCell (by omega) _⟩, by simp [intOf]; omega⟩
              · have hfin := hid (holds_endw hL.out (show ys.length ≤ q by omega) hms.out)
                go_wp2
                exact ⟨⟨k + 1, by omega, by go_num, hfin, hB⟩, by simp [intOf]; omega⟩
        · obtain rfl : k = Is.length := by omega
          have hr0 : wr.cell? ⟨w.heap.size, 0, none⟩ = some (.slice none 0 0) := (hB.out.cell (by show w.heap.size < _; omega)).trans (by simp only [World.cell?]; rw [(MapKept.heap_alloc w _).1]; rfl)
          have hr1 : wr.cell? ⟨w.heap.size, 1, none⟩ = some (.slice none 0 0) := (hB.out.cell (by show w.heap.size < _; omega)).trans (by simp only [World.cell?]; rw [(MapKept.heap_alloc w _).1]; rfl)
          have hrf : wr.frozen? ⟨w.heap.size, 0, none⟩ = false := (hB.out.frozen (by show w.heap.size < _; omega)).trans (by simp only [World.frozen?]; rw [(MapKept.heap_alloc w _).1]; rfl)
          have hrf1 : wr.frozen? ⟨w.heap.size, 1, none⟩ = false := (hB.out.frozen (by show w.heap.size < _; omega)).trans (by simp only [World.frozen?]; rw [(MapKept.heap_alloc w _).1]; rfl)
          have hs0 := World.cell?_setCell_same wr ⟨w.heap.size, 0, none⟩ (.slice none 0 0) hr0
          have hs1 := World.cell?_setCell_same (wr.setCell ⟨w.heap.size, 0, none⟩ (.slice none 0 0)) ⟨w.heap.size, 1, none⟩ (.slice (some ⟨gs, 0, none⟩) ((n + 63) / 64) ((n + 63) / 64)) ((World.cell?_setCell_other _ _ _ _ (by simp)).trans hr1)
          have hbl : Below w.heap.size w ((wr.setCell ⟨w.heap.size, 0, none⟩ (.slice none 0 0)).setCell ⟨w.heap.size, 1, none⟩ (.slice (some ⟨gs, 0, none⟩) ((n + 63) / 64) ((n + 63) / 64))) := (hBw.out.setCell (Nat.le_refl _) _).setCell (Nat.le_refl _) _
          have hbl := hid hbl
          obtain ⟨L, hLL⟩ := hL.out
          have hfin := hid (Holds.boxed (u := .slice (some ⟨gs, 0, none⟩) ((n + 63) / 64) ((n + 63) / 64)) (p := ⟨w.heap.size, 1, none⟩) (Holds.boxed (u := .slice none 0 0) (p := ⟨w.heap.size, 0, none⟩) hLL (by simp; omega)) (by simp; omega))
          clear hLL
          go_wp2
          refine bodyPost_ret (v := .agg #[.slice none 0 0, .slice (some ⟨gs, 0, none⟩) ((n + 63) / 64) ((n + 63) / 64)]) (by simp [results, Try.results42, go_sem, hs0, hs1]) rfl ⟨gs, rfl, ⟨L, hfin.out⟩, hbl.out, by omega⟩

set_option maxRecDepth 100000 in
set_option maxHeartbeats 4000000 in
theorem union42_list (g : Nat) (Is Ss : List Sl) (n : Nat) (w : World) (hn : n ≤ 65536) (hm : Is.length ≤ 131072) (hm1 : Is.length ≠ 1) (hS : Hid (Sets w g Is Ss)) (htot : total Is ≤ 1048576)
    (hb : Hid (∀ x ∈ Ss, x.1 = none)) (hbig : total Is < (n + 63) / 64) :
    Calls Try.prog 42 #[.slice (some ⟨g, 0, none⟩) Is.length Is.length, .int .i64 n] w (UnionList (tidy (cat Is)) w) := by
  have qnil := fun (w : World) (a : Option Addr) (n c n' c' : Nat) => run_neq_slice_nil_any w 29 _ a n c n' c' Try.underlying29
  have h1 : ((Is.length : Int) == 1) = false := beq_eq_false_iff_ne.2 (by omega)
  go_enter Try.func42, Try.ntmps42
  go_wp2
  have W0 := hid (box_below' w (.cells #[.slice none 0 0, .slice none 0 0] 60))
  go_loopw [6, 30] (fun h i wr => ∃ (k : Nat), k ≤ Is.length ∧ i = .int .i64 k ∧ h = .int .i64 (total (Is.take k)) ∧ Hid (∀ (j : Nat) (x : Sl), j < k → Ss[j]? = some x → x.1 = none) ∧ Hid (Below (w.heap.size + 1) (w.alloc (.cells #[.slice none 0 0, .slice none 0 0] 60)) wr)) (fun _ i _ => Is.length - (intOf i).toNat)
  case atStart => exact ⟨0, Nat.zero_le _, rfl, rfl, fun j x hj => by omega, Below.refl _ _⟩
  case round =>
    obtain ⟨k, hk1, rfl, rfl, hnone, hB⟩ := hrel
    by_cases hlt : k < Is.length
    · obtain ⟨⟨xa, xc, xs⟩, hx⟩ : ∃ x, Is[k]? = some x := ⟨_, List.getElem?_eq_getElem hlt⟩
      obtain ⟨⟨ya, yc, ys⟩, hy⟩ : ∃ x, Ss[k]? = some x := ⟨_, List.getElem?_eq_getElem (by rw [← hS.out.len]; exact hlt)⟩
      have hglt := hS.out.lt
      have hold : ∀ o, wr.cell? ⟨g, o, none⟩ = w.cell? ⟨g, o, none⟩ := fun o => (hB.out.cell (by show g < _; omega)).trans (W0.out.cell hglt)
      have hc0 : wr.cell? ⟨g, k * 2, none⟩ = some (.slice xa xs.length xc) := (hold _).trans (hS.out.ids k _ hx)
      have hc1 : wr.cell? ⟨g, k * 2 + 1, none⟩ = some (.slice ya ys.length yc) := (hold _).trans (hS.out.set k _ hy)
      have ht1 := total_take hx
      have ht2 := total_le (k + 1) Is
      have HX := hid hx
      have HY := hid hy
      simp only at ht1
      have HT := hid ht1
      have hsum : total (Is.take k) + xs.length ≤ 1048576 := by omega
      clear hx hy hold ht1 ht2
      cases ya with
      | none =>
        go_wp2
        exact ⟨⟨k + 1, by omega, by go_num, by rw [HT.out]; go_num, fun j x hj hx => by
          by_cases e : j = k
          · subst e; rw [HY.out] at hx; cases hx; rfl
          · exact hnone.out j x (by omega) hx, hB.out.alloc (by have := hB.out.size; simp at this; omega) _⟩, by simp [intOf]; omega⟩
      | some y => exact absurd (hb.out _ (List.mem_of_getElem? HY.out)) (by simp)
    · have hIt := total_all Is (k := k) (by omega)
      rw [hIt]
      have hbi : (total Is : Int) < ((n : Int) + 63) / 64 := by omega
      clear hIt
      go_wp2
      go_loopw [9, 49] (fun v i wq => ∃ (k : Nat), k ≤ Is.length ∧ i = .int .i64 k ∧ Hid (wq.ownsRow (w.heap.size + 1) 3 1 v (total (Is.take k)) ((cat (Is.take k)).map (.int .i64))) ∧ Hid (v = .slice none 0 0 ↔ cat (Is.take k) = []) ∧ Hid (Below (w.heap.size + 1) (w.alloc (.cells #[.slice none 0 0, .slice none 0 0] 60)) wq)) (fun _ i _ => Is.length - (intOf i).toNat)
      case atStart => exact ⟨0, Nat.zero_le _, rfl, World.ownsRow_nil _ _ _ _, hid (show Value.slice none 0 0 = .slice none 0 0 ↔ cat (Is.take 0) = [] by simp [cat]), hB⟩
      case round =>
        clear hB hnone hk1 hlt
        obtain ⟨k, hk1, rfl, hown, hnil, hB⟩ := hrel
        by_cases hlt : k < Is.length
        · obtain ⟨⟨xa, xc, xs⟩, hx⟩ : ∃ x, Is[k]? = some x := ⟨_, List.getElem?_eq_getElem hlt⟩
          obtain ⟨⟨ya, yc, ys⟩, hy⟩ : ∃ x, Ss[k]? = some x := ⟨_, List.getElem?_eq_getElem (by rw [← hS.out.len]; exact hlt)⟩
          have hglt := hS.out.lt
          have hold : ∀ o, wr.cell? ⟨g, o, none⟩ = w.cell? ⟨g, o, none⟩ := fun o => (hB.out.cell (by show g < _; omega)).trans (W0.out.cell hglt)
          have hc0 : wr.cell? ⟨g, k * 2, none⟩ = some (.slice xa xs.length xc) := (hold _).trans (hS.out.ids k _ hx)
          have hc1 : wr.cell? ⟨g, k * 2 + 1, none⟩ = some (.slice ya ys.length yc) := (hold _).trans (hS.out.set k _ hy)
          have hxm := List.mem_of_getElem? hx
          have HS := hid hB.out.size
          have hsz : w.heap.size + 1 ≤ wr.heap.size := by have := HS.out; simp at this; exact this
          have hxh := hid (((hS.out.hI _ hxm).below (W0.out.trans (hB.out.mono (Nat.le_succ _)))).below (box_below' wr (.cells #[.slice xa xs.length xc, .slice ya ys.length yc] 60)))
          have hnx := hid (hS.out.nI _ hxm)
          have ht1 := total_take hx
          have ht2 := total_le (k + 1) Is
          simp only at ht1
          have HT := hid ht1
          have HC := hid (cat_take hx)
          have hsum : total (Is.take k) + xs.length ≤ 1048576 := by omega
          have hown2 := hid (owns_below hown.out (box_below' wr (.cells #[.slice xa xs.length xc, .slice ya ys.length yc] 60)))
          have HO := hid (fun q hq => hown.out.lt q hq)
          clear hx hy hold ht1 ht2 hxm hglt
          go_wp2_with (at_builtin; refine wpList_cat _ rfl _ _ rfl (w.heap.size + 1) _ (total (Is.take k)) _ rfl hown2.out xa xc xs rfl hxh.out hnx.out hsum (by simp; omega) ?_; intro v' w8 ho8 hg8 hn8)
          refine ⟨⟨k + 1, by omega, by go_num, ?_, ?_, ?_⟩, by simp [intOf]; omega⟩
          · rw [HT.out, HC.out, List.map_append]
            exact ho8
          · rw [HC.out]
            refine hn8.trans ((and_congr hnil.out Iff.rfl).trans ?_)
            rw [List.append_eq_nil_iff, List.length_eq_zero_iff]
          · exact (hB.out.alloc hsz _).grown hg8 (by simp; omega) (fun q hq => (HO.out q hq).1)
        · obtain rfl : k = Is.length := by omega
          rw [List.take_length] at hown hnil
          rw [← cat_length] at hown
          have hcl := cat_length Is
          have hsz : w.heap.size + 1 ≤ wr.heap.size := by have := hB.out.size; simp at this; exact this
          go_wp2_with fail
          refine (sort47 hown.out (by omega) hB.out hsz).mono ?_
          rintro e w5 ⟨rfl, ho5, hb5, hs5⟩
          have HO5 := hid ho5
          have HB5 := hid hb5
          clear ho5 hb5 hown hB
          go_wp2_with fail
          refine (compact48 HO5.out (by rw [List.length_mergeSort]; omega) HB5.out hs5).mono ?_
          rintro e w6 ⟨ga, gc, rfl, hga, hh, hB, hs6, hgb⟩
          have hB := hid hB
          have hr0 : w6.cell? ⟨w.heap.size, 0, none⟩ = some (.slice none 0 0) := (hB.out.cell (by show w.heap.size < _; omega)).trans (by simp only [World.cell?]; rw [(MapKept.heap_alloc w _).1]; rfl)
          have hr1 : w6.cell? ⟨w.heap.size, 1, none⟩ = some (.slice none 0 0) := (hB.out.cell (by show w.heap.size < _; omega)).trans (by simp only [World.cell?]; rw [(MapKept.heap_alloc w _).1]; rfl)
          have hrf : w6.frozen? ⟨w.heap.size, 0, none⟩ = false := (hB.out.frozen (by show w.heap.size < _; omega)).trans (by simp only [World.frozen?]; rw [(MapKept.heap_alloc w _).1]; rfl)
          have hrf1 : w6.frozen? ⟨w.heap.size, 1, none⟩ = false := (hB.out.frozen (by show w.heap.size < _; omega)).trans (by simp only [World.frozen?]; rw [(MapKept.heap_alloc w _).1]; rfl)
          have hM : Lib.compact ((cat Is).mergeSort fun x y => decide (x ≤ y)) = tidy (cat Is) := rfl
          rw [hM] at hh ⊢
          have hnn := hid ((hga.trans hnil.out).trans (tidy_nil (l := cat Is)).symm)
          generalize tidy (cat Is) = M at *
          have hs0 := World.cell?_setCell_same w6 ⟨w.heap.size, 0, none⟩ (.slice ga M.length gc) hr0
          have hs1 := World.cell?_setCell_same (w6.setCell ⟨w.heap.size, 0, none⟩ (.slice ga M.length gc)) ⟨w.heap.size, 1, none⟩ (.slice none 0 0) ((World.cell?_setCell_other _ _ _ _ (by simp)).trans hr1)
          have hbl := hid (((W0.out.trans (hB.out.mono (Nat.le_succ _))).setCell (p := ⟨w.heap.size, 0, none⟩) (Nat.le_refl _) (.slice ga M.length gc)).setCell (p := ⟨w.heap.size, 1, none⟩) (Nat.le_refl _) (.slice none 0 0))
          have hfin := hid (has_boxed (w := w) (u0 := .slice ga M.length gc) (u1 := .slice none 0 0) hh (fun x hx => by have := hgb x hx; omega))
          clear hh hM hga hgb hnil HO5 HB5 hcl
          go_wp2
          refine bodyPost_ret (v := .agg #[.slice ga M.length gc, .slice none 0 0]) (by simp [results, Try.results42, go_sem, hs0, hs1]) rfl ⟨ga, gc, rfl, hfin.out, hnn.out, hbl.out⟩
end Go.Proofs.Qxb6603130a
