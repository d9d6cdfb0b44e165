import Derived.Test.Qxb6603130aSearch
namespace Go.Proofs.Qxb6603130a
open Go.RowKit

/-- The row behind some rounds: what has been kept, then the old numbers. -/
def mix (ids F : List Int) : List Int := F ++ ids.drop F.length

theorem mix_length {ids F : List Int} (h : F.length ≤ ids.length) : (mix ids F).length = ids.length := by simp [mix]; omega

theorem mix_set {ids F : List Int} (x : Int) (h : F.length < ids.length) : (mix ids F).set F.length x = mix ids (F ++ [x]) := by
  unfold mix
  rw [List.set_append_right _ _ (Nat.le_refl _), Nat.sub_self]
  rw [List.drop_eq_getElem_cons h, List.set_cons_zero]
  simp

theorem mix_get {ids F : List Int} {k : Nat} (h : F.length ≤ k) : (mix ids F)[k]? = ids[k]? := by
  unfold mix
  rw [List.getElem?_append_right h, List.getElem?_drop]
  congr 1
  omega

/-- Those of the first k that are kept. -/
def keptTo (p : Int → Bool) (ids : List Int) (k : Nat) : List Int := (ids.take k).filter p

theorem keptTo_le (p : Int → Bool) (ids : List Int) (k : Nat) : (keptTo p ids k).length ≤ k := by
  unfold keptTo
  have := List.length_filter_le p (ids.take k)
  have := List.length_take_le k ids
  omega

theorem keptTo_yes {p : Int → Bool} {ids : List Int} {k : Nat} {x : Int} (hx : ids[k]? = some x) (hp : p x = true) : keptTo p ids (k + 1) = keptTo p ids k ++ [x] := by
  unfold keptTo
  rw [List.take_add_one, hx, Option.toList, List.filter_append]
  simp [hp]

theorem keptTo_no {p : Int → Bool} {ids : List Int} {k : Nat} {x : Int} (hx : ids[k]? = some x) (hp : p x = false) : keptTo p ids (k + 1) = keptTo p ids k := by
  unfold keptTo
  rw [List.take_add_one, hx, Option.toList, List.filter_append]
  simp [hp]

/-- Block g is a row of these numbers. -/
def RowIs (w : World) (g : Nat) (l : List Int) : Prop := w.heap[g]? = some (.cells (l.map (Value.int .i64)).toArray 3 (0, 0))

theorem RowIs.cell {w : World} {g : Nat} {l : List Int} (h : RowIs w g l) {k : Nat} {x : Int} (hx : l[k]? = some x) : w.cell? ⟨g, k, none⟩ = some (.int .i64 x) := by
  unfold RowIs at h
  simp [World.cell?, h, hx]

theorem RowIs.lt {w : World} {g : Nat} {l : List Int} (h : RowIs w g l) : g < w.heap.size := (Array.getElem?_eq_some_iff.1 h).1

theorem RowIs.below {w w' : World} {g B : Nat} {l : List Int} (h : RowIs w g l) (hb : Below B w w') (hg : g < B) : RowIs w' g l := (hb.block g hg).trans h

theorem RowIs.has {w : World} {g : Nat} {l : List Int} (h : RowIs w g l) (F : List Int) (hF : ∀ (j : Nat) (x : Int), F[j]? = some x → l[j]? = some x) : Has w (some ⟨g, 0, none⟩) (F.map (.int .i64)) := by
  intro j hj
  have hj' : j < F.length := by simpa using hj
  refine ⟨g, 0, rfl, h.lt, ?_⟩
  have e := List.getElem?_eq_getElem hj'
  rw [Nat.zero_add, h.cell (hF j _ e)]
  simp [hj']

/-- append(kept, y), where there is room. -/
theorem wpList_keep {ops : Array Oper} {rest : List Oper} {o : Oper} {a : Act} {Q : Exit → Act → World → Prop} (w : World) (hgd : o.guard = none) (sl x : Operand)
    (ho : o.op = .call { callee := .builtin .append, args := #[sl, x], argTypes := #[28, 28] })
    (g m n : Nat) (l : List Int) (hs : a.eval sl = .slice (some ⟨g, 0, none⟩) m n) (hg : RowIs w g l) (hn : l.length = n) (hm : m < n) (ad : Addr) (y : Int) (c : Nat) (hx : a.eval x = .slice (some ad) 1 c) (hy : w.cell? ad = some (.int .i64 y))
    (h : ∀ w', RowIs w' g (l.set m y) → w.grownBy w' (some g) → wpList Try.prog ops Q rest (a.put o.dst (.slice (some ⟨g, 0, none⟩) (m + 1) n)) w') : wpList Try.prog ops Q (o :: rest) a w := by
  refine wpList_plain hgd fun K hK => ?_
  obtain ⟨i, hi, h0, h1, h2⟩ := info_parts Try.info3
  have hr := run_append_room (P := Try.prog) w 28 o.type 3 i Try.underlying28 hi g m n _ hg ad 1 c [.int .i64 y] (by rw [h1]; rfl) (by
    intro j u hu
    match j, hu with
    | 0, hu => simp at hu; subst hu; simpa [Addr.add] using hy) (by intro u hu; simp at hu; subst hu; rfl) (by omega) (by rw [h1]; simp; omega)
  unfold Oper.wp execOp
  simp only [ho, resolve, invoke, builtin, Sem.run_bind, Sem.run_pure, Result.andThen_ok, List.map_toArray, List.map_cons, List.map_nil, hs, hx, hr]
  refine hK _ _ (h _ ?_ ⟨rfl, rfl, rfl, by simp, fun k _ hk => setRow_other w g k _ (fun e => hk (by rw [e]))⟩)
  unfold RowIs
  rw [setRow_heap w g _ _ 3 (0, 0) hg, h1]
  congr 3
  simp only [Nat.mul_one, List.length_cons, List.length_nil, Nat.zero_add]
  rw [List.map_set, List.set_eq_take_append_cons_drop, if_pos (by simp; omega)]
  simp

theorem box_below' (w : World) (o : Obj) : Below w.heap.size w (w.alloc o) := (Below.refl _ _).alloc (Nat.le_refl _) _

theorem Has.but' {w w' : World} {a : Option Addr} {xs : List Value} {S : Nat → Prop} (h : Has w a xs) (hb : But S w w') (hf : ∀ x, a = some x → ¬ S x.block) : Has w' a xs := by
  intro j hj
  obtain ⟨b, off, rfl, hlt, hc⟩ := h j hj
  refine ⟨b, off, rfl, Nat.lt_of_lt_of_le hlt hb.size, ?_⟩
  rw [World.cell?_of_block (w := w) (hb.block b hlt (hf _ rfl))]
  exact hc

/-- What among gives: the kept ones lie in the first places of the row, the rest is as it was; nothing else that was there has turned. -/
def Among (p : Int → Bool) (g : Nat) (ids : List Int) (w : World) (e : Ending) (w' : World) : Prop :=
  e = .returned (.slice (some ⟨g, 0, none⟩) (ids.filter p).length ids.length) ∧ RowIs w' g (mix ids (ids.filter p)) ∧ But (fun k => k = g) w w'

set_option maxRecDepth 100000 in
set_option maxHeartbeats 1000000 in
theorem among44_set (ci : Value) (x2 : Addr) (c2 : Nat) (zs : List Int) (g : Nat) (ids : List Int) (w : World) (hl2 : zs.length ≤ 1048576) (hl3 : ids.length ≤ 1048576) (hz : Hid (Words zs)) (hk2 : Hid (Has w (some x2) (zs.map (.int .u64)))) (hg2 : Hid (x2.block ≠ g)) (hrow : Hid (RowIs w g ids))
    (hin : Hid (∀ x ∈ ids, 0 ≤ x ∧ x < 64 * (zs.length : Int))) :
    Calls Try.prog 44 #[.agg #[ci, .slice (some x2) zs.length c2], .slice (some ⟨g, 0, none⟩) ids.length ids.length] w (Among (fun x => bitOf zs x.toNat) g ids w) := by
  have qnil := fun (w : World) (a : Option Addr) (n c n' c' : Nat) => run_neq_slice_nil_any w 29 _ a n c n' c' Try.underlying29
  have hglt := hrow.out.lt
  go_enter Try.func44, Try.ntmps44
  go_wp2
  go_loopw [5, 21] (fun kept i wr => ∃ (k : Nat), k ≤ ids.length ∧ i = .int .i64 k ∧ kept = .slice (some ⟨g, 0, none⟩) (keptTo (fun x => bitOf zs x.toNat) ids k).length ids.length ∧ Hid (RowIs wr g (mix ids (keptTo (fun x => bitOf zs x.toNat) ids k))) ∧ Hid (But (fun k => k = g) (w.alloc (.cells #[ci, .slice (some x2) zs.length c2] 60)) wr)) (fun _ i _ => ids.length - (intOf i).toNat)
  case atStart => exact ⟨0, Nat.zero_le _, rfl, rfl, by exact hrow.out.below (box_below' w _) hglt, ⟨rfl, rfl, rfl, Nat.le_refl _, fun _ _ _ => rfl⟩⟩
  case round =>
    obtain ⟨k, hk1, rfl, rfl, hR, hB⟩ := hrel
    by_cases hlt : k < ids.length
    · obtain ⟨x, hx⟩ : ∃ s, ids[k]? = some s := ⟨_, List.getElem?_eq_getElem hlt⟩
      obtain ⟨hx0, hx1⟩ := hin.out x (List.mem_of_getElem? hx)
      obtain ⟨xn, rfl⟩ := Int.eq_ofNat_of_zero_le hx0
      have hFl := keptTo_le (fun x => bitOf zs x.toNat) ids k
      have hy := hid (fun h => keptTo_yes (p := fun x => bitOf zs x.toNat) hx h)
      have hn := hid (fun h => keptTo_no (p := fun x => bitOf zs x.toNat) hx h)
      have hcell := hR.out.cell (by rw [mix_get hFl]; exact hx)
      generalize keptTo (fun x => bitOf zs x.toNat) ids k = F at *
      have hbx : w.heap.size < (w.alloc (.cells #[ci, .slice (some x2) zs.length c2] 60)).heap.size := by simp
      have hb0 : wr.cell? ⟨w.heap.size, 0, none⟩ = some ci := by
        rw [World.cell?_of_block (w := w.alloc (.cells #[ci, .slice (some x2) zs.length c2] 60)) (hB.out.block _ hbx (by show w.heap.size ≠ g; omega))]; simp
      have hb1 : wr.cell? ⟨w.heap.size, 1, none⟩ = some (.slice (some x2) zs.length c2) := by
        rw [World.cell?_of_block (w := w.alloc (.cells #[ci, .slice (some x2) zs.length c2] 60)) (hB.out.block _ hbx (by show w.heap.size ≠ g; omega))]; simp
      have hk2r : Hid (Has wr (some x2) (zs.map (.int .u64))) := (hk2.out.below (box_below' w _)).but' hB.out (fun y hy => by cases hy; exact hg2.out)
      have hxl : xn < 64 * zs.length := by omega
      have hml := hid (mix_length (ids := ids) (F := F) (by omega))
      clear hx hbx
      go_wp2_with fail
      refine (has49 ci (some x2) c2 zs xn wr hz hl2 hxl hk2r).mono ?_
      rintro e w1 ⟨rfl, hb1'⟩
      have hR1 := hid (hR.out.below hb1' hR.out.lt)
      have hB1 := hid (hB.out.trans (But.of_below hb1'))
      clear hb1'
      cases hbit : bitOf zs xn
      · have hst := hid (hn.out (by simpa using hbit))
        go_wp2
        exact ⟨⟨k + 1, by omega, by go_num, by rw [hst.out], by rw [hst.out]; exact hR1.out, hB1.out⟩, by simp [intOf]; omega⟩
      · have hst := hid (hy.out (by simpa using hbit))
        go_wp2_with (at_builtin; refine wpList_keep _ rfl _ _ rfl g F.length ids.length (mix ids F) rfl (hR1.out.below (box_below' w1 _) hR1.out.lt) hml.out (by omega) _ xn _ rfl (by simp) ?_; intro w2 hR2 hgr2)
        rw [mix_set _ (by omega)] at hR2
        exact ⟨⟨k + 1, by omega, by go_num, by rw [hst.out]; simp, by rw [hst.out]; exact hR2, hB1.out.trans ((But.of_below (box_below' w1 _)).trans (But.of_grown hgr2 (fun q hq => by cases hq; rfl)))⟩, by simp [intOf]; omega⟩
    · go_wp2
      have e : k = ids.length := by omega
      subst e
      have hall : keptTo (fun x => bitOf zs x.toNat) ids ids.length = ids.filter (fun x => bitOf zs x.toNat) := by simp [keptTo]
      rw [hall] at hR
      go_ret
      exact ⟨by rw [← hall]; rfl, hR.out, (But.of_below (box_below' w _)).trans hB.out⟩
end Go.Proofs.Qxb6603130a
