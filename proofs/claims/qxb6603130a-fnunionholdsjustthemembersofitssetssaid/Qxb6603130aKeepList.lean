import Derived.Test.Qxb6603130aKeep
namespace Go.Proofs.Qxb6603130a
open Go.RowKit

theorem slice_hi (a : Option Addr) (len cap h : Nat) (hh : h ≤ cap) (w : World) : (Instr.slice 28 (.slice a len cap) none (some (.int .i64 h)) none).run Try.prog w = .ok (.slice a h cap) w := by
  obtain ⟨i, hi, h0, h1, h2⟩ := info_parts Try.info3
  have e : a.map (fun x : Addr => x.add 0) = a := by cases a <;> simp [Addr.add]
  simp [Instr.slice, Instr.sliceBounds, Instr.sliceBound, run_underlying Try.underlying28, asIntOf, sizeOf, typeInfo, hi, hh, e]

theorem slice_lo (a : Option Addr) (len cap l : Nat) (hh : l ≤ len) (w : World) : (Instr.slice 28 (.slice a len cap) (some (.int .i64 l)) none none).run Try.prog w = .ok (.slice (if cap = l then a else a.map (fun x : Addr => x.add l)) (len - l) (cap - l)) w := by
  obtain ⟨i, hi, h0, h1, h2⟩ := info_parts Try.info3
  simp [Instr.slice, Instr.sliceBounds, Instr.sliceBound, run_underlying Try.underlying28, asIntOf, sizeOf, typeInfo, hi, hh, h1]

theorem slice_lo0 (a : Option Addr) (cap : Nat) (w : World) : (Instr.slice 28 (.slice a 0 cap) (some (.int .i64 0)) none none).run Try.prog w = .ok (.slice a 0 cap) w := by
  have h := slice_lo a 0 cap 0 (Nat.le_refl _) w
  have e : a.map (fun x : Addr => x.add 0) = a := by cases a <;> simp [Addr.add]
  simpa [e] using h

/-- The rest of a slice's elements lie behind the moved address. -/
theorem Has.moved {w : World} {a : Option Addr} {l : List Int} {cap i : Nat} (h : Has w a (l.map (.int .i64))) (hc : l.length ≤ cap) : Has w (if cap = i then a else a.map (fun x : Addr => x.add i)) ((l.drop i).map (.int .i64)) := by
  intro j hj
  have hj' : i + j < l.length := by simp at hj; omega
  obtain ⟨b, off, rfl, hlt, hcell⟩ := h (i + j) (by simpa using hj')
  rw [if_neg (by omega)]
  refine ⟨b, off + i, by simp [Go.WideShapes.add_plain], hlt, ?_⟩
  rw [Nat.add_assoc, hcell]
  simp

/-- The galloping step has found the place. -/
theorem lb_gallop {l : List Int} {x : Int} {s i : Nat} (hr : Rising l) (h : IsLb (l.take (s + 1)) x i) (hs : ∀ y, l[s]? = some y → x ≤ y) : IsLb l x i ∧ ((l.take (s + 1))[i]? = some x ↔ l[i]? = some x) := by
  have hle : i ≤ l.length := by have := h.le; simp at this; omega
  have his : i ≤ s ∨ l.length ≤ i := by
    have h1 := h.le
    simp at h1
    rcases Nat.lt_or_ge s i with q | q
    · right
      rcases Nat.lt_or_ge s l.length with q2 | q2
      · exfalso
        have e := List.getElem?_eq_getElem q2
        have a1 := hs _ e
        have a2 := h.lo s l[s] q (by simp [q2])
        omega
      · omega
    · exact .inl q
  refine ⟨⟨hle, fun j y hj hy => h.lo j y hj (by have := h.le; simp at this; rw [List.getElem?_take, if_pos (by omega)]; exact hy), fun j y hj hy => ?_⟩, ?_⟩
  · rcases Nat.lt_or_ge j (s + 1) with q | q
    · exact h.hi j y hj (by rw [List.getElem?_take, if_pos q]; exact hy)
    · obtain ⟨hjl, _⟩ := List.getElem?_eq_some_iff.1 hy
      have e := List.getElem?_eq_getElem (show s < l.length by omega)
      exact Int.le_trans (hs _ e) (hr.upto (show s ≤ j by omega) e hy)
  · rcases his with q | q
    · rw [List.getElem?_take, if_pos (by omega)]
    · rw [List.getElem?_eq_none (by simp; omega), List.getElem?_eq_none q]

theorem lb_mem {l : List Int} {x : Int} {i : Nat} (h : IsLb l x i) (hr : Rising l) : l[i]? = some x ↔ x ∈ l := by
  constructor
  · exact List.mem_of_getElem?
  · intro hm
    obtain ⟨j, hj, rfl⟩ := List.getElem_of_mem hm
    have e := List.getElem?_eq_getElem hj
    rcases Nat.lt_or_ge j i with q | q
    · have := h.lo j _ q e; omega
    · have hi : i < l.length := by omega
      have e2 := List.getElem?_eq_getElem hi
      have a1 := h.hi i _ (Nat.le_refl _) e2
      have a2 := hr.upto q e2 e
      rw [e2]
      congr 1
      omega

theorem Rising.drop {l : List Int} (h : Rising l) (r : Nat) : Rising (l.drop r) := by
  intro i x y hx hy
  rw [List.getElem?_drop] at hx hy
  exact h (r + i) x y hx (by rw [Nat.add_assoc]; exact hy)

theorem Rising.take {l : List Int} (h : Rising l) (r : Nat) : Rising (l.take r) := by
  intro i x y hx hy
  obtain ⟨h1, _⟩ := List.getElem?_eq_some_iff.1 hx
  obtain ⟨h2, _⟩ := List.getElem?_eq_some_iff.1 hy
  simp at h1 h2
  rw [List.getElem?_take, if_pos (by omega)] at hx hy
  exact h i x y hx hy

/-- Those passed are below all that is still looked for. -/
def Passed (cs ids : List Int) (r k : Nat) : Prop := ∀ (j q : Nat) (y z : Int), j < r → k ≤ q → cs[j]? = some y → ids[q]? = some z → y < z

theorem mem_drop_iff {cs ids : List Int} {r k : Nat} {x : Int} (h : Passed cs ids r k) (hx : ids[k]? = some x) : x ∈ cs.drop r ↔ x ∈ cs := by
  constructor
  · exact List.mem_of_mem_drop
  · intro hm
    obtain ⟨j, hj, rfl⟩ := List.getElem_of_mem hm
    have e := List.getElem?_eq_getElem hj
    rcases Nat.lt_or_ge j r with q | q
    · have := h j k _ _ q (Nat.le_refl _) e hx; omega
    · exact List.mem_of_getElem? (l := cs.drop r) (i := j - r) (by rw [List.getElem?_drop, show r + (j - r) = j by omega]; exact e)

theorem Passed.step {cs ids : List Int} {r k i : Nat} {x : Int} (h : Passed cs ids r k) (hr : Rising ids) (hx : ids[k]? = some x) (hl : IsLb (cs.drop r) x i) : Passed cs ids (r + i) (k + 1) := by
  intro j q y z hj hq hy hz
  have hxz := hr.upto (show k ≤ q by omega) hx hz
  rcases Nat.lt_or_ge j r with p | p
  · exact h j q y z p (by omega) hy hz
  · have := hl.lo (j - r) y (by omega) (by rw [List.getElem?_drop, show r + (j - r) = j by omega]; exact hy)
    omega

theorem next_rest {cs ids L : List Int} {r k i : Nat} {x : Int} (HL : L = cs.drop r) (hrl : r ≤ cs.length) (hlb : IsLb L x i) (hP : Passed cs ids r k) (hr2 : Rising ids) (hx : ids[k]? = some x) :
    r + i ≤ cs.length ∧ L.length - i = cs.length - (r + i) ∧ L.drop i = cs.drop (r + i) ∧ Passed cs ids (r + i) (k + 1) := by
  have h1 := hlb.le
  have e : L.length = cs.length - r := by rw [HL]; simp
  refine ⟨by omega, by omega, by rw [HL, List.drop_drop], ?_⟩
  subst HL
  exact hP.step hr2 hx hlb

theorem found_mem {cs ids L : List Int} {r k i : Nat} {x : Int} (HL : L = cs.drop r) (hr1 : Rising cs) (hlb : IsLb L x i) (hP : Passed cs ids r k) (hx : ids[k]? = some x) : decide (x ∈ cs) = decide (L[i]? = some x) := by
  subst HL
  rw [decide_eq_decide, lb_mem hlb (hr1.drop r), mem_drop_iff hP hx]

theorem Has.moved' {w : World} {b off : Nat} {l : List Int} {cap i : Nat} (h : Has w (some ⟨b, off, none⟩) (l.map (.int .i64))) (hc : l.length ≤ cap) : Has w (if cap = i then some ⟨b, off, none⟩ else some ⟨b, off + i, none⟩) ((l.drop i).map (.int .i64)) := by
  have := h.moved (i := i) hc
  simpa [Go.WideShapes.add_plain] using this

theorem search50' (a : Option Addr) (n c : Nat) (l : List Int) (x : Int) (w : World) (hn : l.length = n) (hl : n ≤ 1048576) (hr : Rising l) (hk : Has w a (l.map (.int .i64))) :
    Calls Try.prog 50 #[.slice a n c, .int .i64 x] w (Found l x w) := by
  subst hn
  exact search50 a c l x w hl hr hk

theorem Has.take {w : World} {a : Option Addr} {l : List Int} (h : Has w a (l.map (.int .i64))) (n : Nat) : Has w a ((l.take n).map (.int .i64)) := by
  intro j hj
  have hj' : j < n ∧ j < l.length := by simp at hj; omega
  obtain ⟨b, off, e, hlt, hc⟩ := h j (by simpa using hj'.2)
  exact ⟨b, off, e, hlt, by rw [hc]; simp [hj'.1]⟩

set_option maxRecDepth 100000 in
set_option maxHeartbeats 1000000 in
theorem among44_list (ca : Option Addr) (cc : Nat) (cs : List Int) (g : Nat) (ids : List Int) (w : World) (hl2 : cs.length ≤ 1048576) (hcc : cs.length ≤ cc) (hl3 : ids.length ≤ 1048576) (hk2 : Hid (Has w ca (cs.map (.int .i64)))) (hg2 : Hid (∀ x, ca = some x → x.block ≠ g)) (hrow : Hid (RowIs w g ids))
    (hr1 : Hid (Rising cs)) (hr2 : Hid (Rising ids)) :
    Calls Try.prog 44 #[.agg #[.slice ca cs.length cc, .slice none 0 0], .slice (some ⟨g, 0, none⟩) ids.length ids.length] w (Among (fun x => decide (x ∈ cs)) g ids w) := by
  have qnil := fun (w : World) (a : Option Addr) (n c n' c' : Nat) => run_neq_slice_nil_any w 29 _ a n c n' c' Try.underlying29
  have hglt := hrow.out.lt
  go_enter Try.func44, Try.ntmps44
  go_wp2
  go_loopw [5, 8, 38] (fun kept rs i wr => ∃ (k r : Nat) (ra : Option Addr) (rc : Nat), k ≤ ids.length ∧ r ≤ cs.length ∧ i = .int .i64 k ∧ kept = .slice (some ⟨g, 0, none⟩) (keptTo (fun x => decide (x ∈ cs)) ids k).length ids.length ∧ rs = .slice ra (cs.length - r) rc ∧ cs.length - r ≤ rc ∧ rc ≤ cc ∧ Hid (Has wr ra ((cs.drop r).map (.int .i64))) ∧ Hid (∀ x, ra = some x → x.block ≠ g) ∧ Hid (Passed cs ids r k) ∧
      Hid (RowIs wr g (mix ids (keptTo (fun x => decide (x ∈ cs)) ids k))) ∧ Hid (But (fun k => k = g) w wr)) (fun _ _ i _ => ids.length - (intOf i).toNat)
  case atStart => exact ⟨0, 0, ca, cc, Nat.zero_le _, Nat.zero_le _, rfl, rfl, rfl, hcc, Nat.le_refl _, hk2.out.below (box_below' w _), hg2, fun j q y z hj => by omega, by exact hrow.out.below (box_below' w _) hglt, But.of_below (box_below' w _)⟩
  case round =>
    obtain ⟨k, r, ra, rc, hk1, hrl, rfl, rfl, rfl, hrc, hrcc, hH, hF, hP, hR, hB⟩ := hrel
    by_cases hlt : k < ids.length
    · obtain ⟨x, hx⟩ : ∃ s, ids[k]? = some s := ⟨_, List.getElem?_eq_getElem hlt⟩
      have hFl := keptTo_le (fun x => decide (x ∈ cs)) ids k
      have hy := hid (fun h => keptTo_yes (p := fun x => decide (x ∈ cs)) hx h)
      have hn := hid (fun h => keptTo_no (p := fun x => decide (x ∈ cs)) hx h)
      have hcell := hR.out.cell (by rw [mix_get hFl]; exact hx)
      generalize keptTo (fun x => decide (x ∈ cs)) ids k = F at *
      have hml := hid (mix_length (ids := ids) (F := F) (by omega))
      have HX := hid hx
      clear hx
      obtain ⟨L, hL⟩ : ∃ L, L = cs.drop r := ⟨_, rfl⟩
      have hLl : cs.length - r = L.length := by rw [hL]; simp
      have HL := hid hL
      rw [← hL] at hH
      rw [hLl] at hrc
      clear hL
      go_wp2
      go_loop [11] (fun t => ∃ s : Nat, 1 ≤ s ∧ s ≤ 2097152 ∧ t = .int .i64 s) (fun t => L.length - (intOf t).toNat)
      case atStart => exact ⟨1, Nat.le_refl _, by omega, rfl⟩
      case round =>
        obtain ⟨s, hs1, hs2, rfl⟩ := hrel
        by_cases hsl : s < L.length
        · obtain ⟨b, off, rfl, hb, hcellL⟩ := hH.out.at (k := s) (x := .int .i64 (L[s]'hsl)) (by simp [hsl])
          by_cases hlx : L[s] < x
          · go_wp2
            exact ⟨⟨s * 2, by omega, by omega, by go_num⟩, by simp [intOf]; omega⟩
          · have HLX := hid hlx
            have hlx' : x ≤ L[s] := by omega
            clear hlx
            go_wp2_with fail
            refine (search50' _ (s + 1) rc (L.take (s + 1)) x wr (by simp; omega) (by omega) (by rw [HL.out]; exact (hr1.out.drop r).take _) (hH.out.take _)).mono ?_
            rintro e w1 ⟨i, hlb, rfl, rfl⟩
            obtain ⟨hlb', hiff⟩ := lb_gallop (by rw [HL.out]; exact hr1.out.drop r) hlb (fun y hy => by obtain ⟨_, rfl⟩ := List.getElem?_eq_some_iff.1 hy; exact hlx')
            have hiL := hlb'.le
            obtain ⟨n1, n2, n3, n4⟩ := next_rest HL.out hrl hlb' hP.out hr2.out HX.out
            have hmem := found_mem HL.out hr1.out hlb' hP.out HX.out
            have hdd : decide ((L.take (s + 1))[i]? = some x) = decide (L[i]? = some x) := by rw [decide_eq_decide]; exact hiff
            have hH' := hid (hH.out.moved' (i := i) hrc)
            have hF' := hid (show ∀ y, (if rc = i then some (⟨b, off, none⟩ : Addr) else some ⟨b, off + i, none⟩) = some y → y.block ≠ g from fun y hy => by
              have hbg : b ≠ g := hF.out _ rfl
              split at hy <;> cases hy <;> exact hbg)
            rw [n3] at hH'
            rw [← hdd] at hmem
            have N2 := hid n2
            have N4 := hid n4
            clear hiff hlb hlb' n2 n3 n4 hdd
            cases hfnd : decide ((L.take (s + 1))[i]? = some x)
            · have hst := hid (hn.out (by rw [hmem]; exact hfnd))
              clear hmem
              go_wp2_with fail
              exact ⟨⟨k + 1, r + i, _, _, by omega, n1, by go_num, by rw [hst.out], by rw [N2.out], by have := N2.out; omega, by omega, hH', hF', N4, by rw [hst.out]; exact hR, hB⟩, by simp [intOf]; omega⟩
            · have hst := hid (hy.out (by rw [hmem]; exact hfnd))
              clear hmem
              go_wp2_with (at_builtin; refine wpList_keep _ rfl _ _ rfl g F.length ids.length (mix ids F) rfl (hR.out.below (box_below' w1 _) hR.out.lt) hml.out (by omega) _ x _ rfl (by simp) ?_; intro w2 hR2 hgr2)
              rw [mix_set _ (by omega)] at hR2
              have hB2 : But (fun k => k = g) w1 w2 := (But.of_below (box_below' w1 _)).trans (But.of_grown hgr2 (fun q hq => by cases hq; rfl))
              exact ⟨⟨k + 1, r + i, _, _, by omega, n1, by go_num, by rw [hst.out]; simp, by rw [N2.out], by have := N2.out; omega, by omega, hH'.out.but' hB2 (fun y hy => hF'.out y hy), hF', N4, by rw [hst.out]; exact hR2, hB.out.trans hB2⟩, by simp [intOf]; omega⟩
        · by_cases hL0 : 0 < L.length
          · obtain ⟨b, off, rfl, hb, hcellL⟩ := hH.out.at (k := 0) (x := .int .i64 (L[0]'hL0)) (by simp [hL0])
            clear hb hcellL
            go_wp2_with fail
            refine (search50 _ rc L x wr (by omega) (by rw [HL.out]; exact hr1.out.drop r) hH).mono ?_
            rintro e w1 ⟨i, hlb', rfl, rfl⟩
            have hiL := hlb'.le
            obtain ⟨n1, n2, n3, n4⟩ := next_rest HL.out hrl hlb' hP.out hr2.out HX.out
            have hmem := found_mem HL.out hr1.out hlb' hP.out HX.out
            have hH' := hid (hH.out.moved' (i := i) hrc)
            have hF' := hid (show ∀ y, (if rc = i then some (⟨b, off, none⟩ : Addr) else some ⟨b, off + i, none⟩) = some y → y.block ≠ g from fun y hy => by
              have hbg : b ≠ g := hF.out _ rfl
              split at hy <;> cases hy <;> exact hbg)
            rw [n3] at hH'
            have N2 := hid n2
            have N4 := hid n4
            clear hlb' n2 n3 n4
            cases hfnd : decide (L[i]? = some x)
            · have hst := hid (hn.out (by rw [hmem]; exact hfnd))
              clear hmem
              go_wp2_with fail
              exact ⟨⟨k + 1, r + i, _, _, by omega, n1, by go_num, by rw [hst.out], by rw [N2.out], by have := N2.out; omega, by omega, hH', hF', N4, by rw [hst.out]; exact hR, hB⟩, by simp [intOf]; omega⟩
            · have hst := hid (hy.out (by rw [hmem]; exact hfnd))
              clear hmem
              go_wp2_with (at_builtin; refine wpList_keep _ rfl _ _ rfl g F.length ids.length (mix ids F) rfl (hR.out.below (box_below' w1 _) hR.out.lt) hml.out (by omega) _ x _ rfl (by simp) ?_; intro w2 hR2 hgr2)
              rw [mix_set _ (by omega)] at hR2
              have hB2 : But (fun k => k = g) w1 w2 := (But.of_below (box_below' w1 _)).trans (But.of_grown hgr2 (fun q hq => by cases hq; rfl))
              exact ⟨⟨k + 1, r + i, _, _, by omega, n1, by go_num, by rw [hst.out]; simp, by rw [N2.out], by have := N2.out; omega, by omega, hH'.out.but' hB2 (fun y hy => hF'.out y hy), hF', N4, by rw [hst.out]; exact hR2, hB.out.trans hB2⟩, by simp [intOf]; omega⟩
          · have hLn : L = [] := List.eq_nil_of_length_eq_zero (by omega)
            have hsh := slice_hi ra 0 rc 0 (Nat.zero_le _)
            have hslo := slice_lo0 ra rc
            simp only [Int.natCast_zero] at hsh
            subst hLn
            go_wp2_with fail
            refine (search50 ra rc [] x wr (by simp) (by rw [HL.out]; exact hr1.out.drop r) hH).mono ?_
            rintro e w1 ⟨i, hlb', rfl, rfl⟩
            have hiL := hlb'.le
            obtain rfl : i = 0 := by simpa using hiL
            have hmem := found_mem HL.out hr1.out hlb' hP.out HX.out
            have hst := hid (hn.out (by rw [hmem]; simp))
            have hz := hid hLl
            clear hmem hlb' hrc hLl hsl hL0 hiL
            go_wp2
            exact ⟨⟨k + 1, r, ra, rc, by omega, hrl, by go_num, by rw [hst.out], by rw [hz.out]; rfl, by rw [hz.out]; simp, hrcc, by rw [← HL.out]; exact hH, hF, fun j q y z hj hq hy hz => hP.out j q y z hj (by omega) hy hz, by rw [hst.out]; exact hR, hB⟩, by simp [intOf]; omega⟩
    · go_wp2
      have e : k = ids.length := by omega
      subst e
      have hall : keptTo (fun x => decide (x ∈ cs)) ids ids.length = ids.filter (fun x => decide (x ∈ cs)) := by simp [keptTo]
      rw [hall] at hR
      go_ret
      exact ⟨by rw [← hall]; rfl, hR.out, hB.out⟩
end Go.Proofs.Qxb6603130a
