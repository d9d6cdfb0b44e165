import Derived.Test.Qxb6603130aLaw5
namespace Go.Proofs.Qxb6603130a
open Go.RowKit

theorem lb_here {cs : List Int} {x : Int} {r r' : Nat} (hr : Rising cs) (h1 : r ≤ r') (h2 : r' ≤ cs.length) (hlo : ∀ q y, r ≤ q → q < r' → cs[q]? = some y → y < x) (hhi : ∀ y, cs[r']? = some y → x ≤ y) : IsLb (cs.drop r) x (r' - r) := by
  refine ⟨by simp; omega, fun j y hj hy => ?_, fun j y hj hy => ?_⟩
  · rw [List.getElem?_drop] at hy
    exact hlo (r + j) y (by omega) (by omega) hy
  · rw [List.getElem?_drop] at hy
    obtain ⟨hl, _⟩ := List.getElem?_eq_some_iff.1 hy
    have e := List.getElem?_eq_getElem (show r' < cs.length by omega)
    exact Int.le_trans (hhi _ e) (hr.upto (show r' ≤ r + j by omega) e hy)

theorem new_cell (w : World) (v : Value) (t : TypeId) : (w.alloc (.cells #[v] t)).cell? ⟨w.heap.size, 0, none⟩ = some v := by simp

theorem pass_here {cs ids : List Int} {x : Int} {r r' k : Nat} (hr : Rising cs) (hr2 : Rising ids) (h1 : r ≤ r') (h2 : r' ≤ cs.length) (hP : Passed cs ids r k) (hx : ids[k]? = some x) (hlo : ∀ q y, r ≤ q → q < r' → cs[q]? = some y → y < x) (hhi : ∀ y, cs[r']? = some y → x ≤ y) :
    Passed cs ids r' (k + 1) ∧ decide (x ∈ cs) = decide (cs[r']? = some x) := by
  have hlb := lb_here hr h1 h2 hlo hhi
  have a := next_rest rfl (by omega) hlb hP hr2 hx
  have b := found_mem rfl hr hlb hP hx
  rw [List.getElem?_drop, show r + (r' - r) = r' by omega] at b
  rw [show r + (r' - r) = r' by omega] at a
  exact ⟨a.2.2.2, b⟩

set_option maxRecDepth 100000 in
set_option maxHeartbeats 2000000 in
theorem law5_list (a0 : Option Addr) (c0 : Nat) (cs : List Int) (a2 : Option Addr) (c2 : Nat) (ids : List Int) (w : World) (hA : Hid (AArgs w a0 c0 cs none 0 [] a2 c2 ids)) :
    Calls Try.prog 5 #[.slice a0 cs.length c0, .slice none 0 0, .slice a2 ids.length c2] w fun e w' => e = .returned (.bool true) ∧ Below w.heap.size w w' := by
  have qnil := fun (w : World) (a : Option Addr) (n c n' c' : Nat) => Lib.run_eql_slice_nil w 28 _ a n c n' c' Try.underlying28
  have qnil2 := fun (w : World) (a : Option Addr) (n c n' c' : Nat) => run_neq_slice_nil_any w 29 _ a n c n' c' Try.underlying29
  go_enter Try.func5, Try.ntmps5
  go_wp2_with fail
  refine (bytes21 a0 cs.length c0 none 0 0 a2 ids.length c2 w hA.out.l0 hA.out.l1 hA.out.l2).mono ?_
  rintro e w' (⟨rfl, rfl⟩ | ⟨rfl, rfl, b0, b1, b2⟩)
  · go_wp2
    go_ret
    exact ⟨rfl, Below.refl _ _⟩
  go_wp2_with fail
  all_goals try (go_ret; exact ⟨rfl, Below.refl _ _⟩)
  refine (wf22_list a0 c0 cs a2 c2 ids _ b0 b2 hA.out.h0 hA.out.h2).mono ?_
  rintro e w0 (⟨rfl, n, rfl⟩ | ⟨rfl, ⟨n, rfl⟩, hok⟩)
  · go_wp2
    go_ret
    exact ⟨rfl, below_dr (Below.refl _ _) n⟩
  have hri1 := hid (hok.2 rfl).1
  have hri2 := hid (hok.2 rfl).2
  clear hok
  go_wp2_with fail
  refine (clone23 a0 c0 cs _ b0 hA.out.n0 (hA.out.h0.dr n)).mono ?_
  rintro e w1 ⟨a0', c0', rfl, i0⟩
  have I0 := hid i0
  clear i0
  go_wp2_with fail
  refine (clone24_nil _).mono ?_
  rintro e w2 ⟨rfl, rfl⟩
  have I1 := hid (icopy_nil .u64 62 w2)
  go_wp2_with fail
  refine (clone23 a2 c2 ids _ b2 hA.out.n2 (((hA.out.h2.dr n).below I0.out.below).below I1.out.below)).mono ?_
  rintro e w3 ⟨ia, ic, rfl, i2⟩
  have I2 := hid i2
  clear i2
  go_wp2_with fail
  refine (clone23 ia ic ids _ b2 I2.out.hnone I2.out.has).mono ?_
  rintro e w4 ⟨wa, wc, rfl, i3⟩
  have I3 := hid i3
  clear i3
  go_wp2_with fail
  refine (door25_list a0' c0' cs wa wc ids w3 w4 ia I3.out b0 (by
    by_cases hn : a0' = none
    · obtain ⟨rfl, rfl⟩ := I0.out.hnone hn; exact Nat.le_refl _
    · rw [(I0.out.hsome hn).2.1]; exact Nat.le_refl _) b2 (((I0.out.has.below I1.out.below).below I2.out.below).below I3.out.below) (fun x hx => by have := (I0.out.lt hx).2; have := I2.out.below.size; omega) hri1.out hri2.out).mono ?_
  rintro e w5 ⟨ga, gc, rfl, hgn, hg1, hg2, hg3⟩
  have RD := hid (ready5 I0.out I1.out I2.out I3.out hgn hg1 hg2 hg3)
  clear hgn hg1 hg2 hg3 I0 I1 I2 I3
  have hnn := RD.out.nil
  have hmk := make0_run ids.length b2
  go_wp2
  go_loopw [9, 11, 12] (fun t at' i wr => ∃ (k r : Nat), k ≤ ids.length ∧ r ≤ cs.length ∧ i = .int .i64 k ∧ at' = .int .i64 r ∧ t = .slice (some ⟨w5.heap.size, 0, none⟩) (keptTo (fun x => decide (x ∈ cs)) ids k).length ids.length ∧ Hid (Passed cs ids r k) ∧ Hid (RowIs wr w5.heap.size (mix (List.replicate ids.length 0) (keptTo (fun x => decide (x ∈ cs)) ids k))) ∧ Hid (But (fun k => k = w5.heap.size) (w5.alloc (.cells (madeCells #[.int .i64 0] ids.length) 3)) wr)) (fun _ _ i _ => ids.length - (intOf i).toNat)
  case atStart => exact ⟨0, 0, Nat.zero_le _, Nat.zero_le _, rfl, rfl, rfl, fun j q y z hj => by omega, row_made w5 ids.length, ⟨rfl, rfl, rfl, Nat.le_refl _, fun _ _ _ => rfl⟩⟩
  case round =>
    obtain ⟨k, r, hk1, hr1, rfl, rfl, rfl, hP, hR, hB⟩ := hrel
    by_cases hlt : k < ids.length
    · obtain ⟨x, hx⟩ : ∃ s, ids[k]? = some s := ⟨_, List.getElem?_eq_getElem hlt⟩
      have hFl := keptTo_le (fun x => decide (x ∈ cs)) ids k
      have hy := hid (fun h => keptTo_yes (p := fun x => decide (x ∈ cs)) hx h)
      have hn := hid (fun h => keptTo_no (p := fun x => decide (x ∈ cs)) hx h)
      generalize keptTo (fun x => decide (x ∈ cs)) ids k = F at *
      obtain ⟨b, off, rfl, hb, hcell⟩ := (RD.out.copy.new _ hB.out).at (k := k) (x := .int .i64 x) (by simp [hx])
      have hml := hid (mix_length (ids := List.replicate ids.length 0) (F := F) (by simp; omega))
      simp only [List.length_replicate] at hml
      have hlist := hid (RD.out.list.new _ hB.out)
      have HX := hid hx
      have hi0 : (0 : Int) ≤ (k : Int) := by omega
      have hi1 : (k : Int) < (ids.length : Int) := by omega
      clear hx
      go_wp2
      go_loopw [11] (fun t wq => ∃ (r' m : Nat), r ≤ r' ∧ r' ≤ cs.length ∧ t = .int .i64 r' ∧ wq = wr.drewN m ∧ Hid (∀ q y, r ≤ q → q < r' → cs[q]? = some y → y < x)) (fun t _ => cs.length - (intOf t).toNat)
      case atStart => exact ⟨r, 0, Nat.le_refl _, hr1, rfl, rfl, fun q y h1 h2 => by omega⟩
      case round =>
        obtain ⟨r', m, hrr, hr2, rfl, rfl, hbel⟩ := hrel
        by_cases hrc : r' < cs.length
        · obtain ⟨b2, off2, rfl, hb2, hcell2⟩ := hlist.out.at (k := r') (x := .int .i64 (cs[r']'hrc)) (by simp [hrc])
          have hj0 : (0 : Int) ≤ (r' : Int) := by omega
          have hj1 : (r' : Int) < (cs.length : Int) := by omega
          have he := hid (List.getElem?_eq_getElem hrc)
          by_cases hcx : cs[r'] < x
          · go_wp2
            go_quiet (fail)
            go_wp2
            exact ⟨⟨r' + 1, m + nq, by omega, by omega, by go_num, by simp, fun q y h1 h2 hq => by
              by_cases e : q = r'
              · subst e; rw [he.out] at hq; cases hq; exact hcx
              · exact hbel.out q y h1 (by omega) hq⟩, by simp [intOf]; omega⟩
          · have hcx' : x ≤ cs[r'] := by omega
            obtain ⟨hpas, hmem⟩ := pass_here hri1.out hri2.out hrr hr2 hP.out HX.out hbel.out (fun y hy => by rw [he.out] at hy; cases hy; exact hcx')
            have HPA := hid hpas
            by_cases hex : cs[r'] = x
            · have hst := hid (hy.out (by rw [hmem, he.out]; simpa using hex))
              have hbq : (cs[r'] == x) = true := beq_iff_eq.2 hex
              clear hmem hpas hex
              go_wp2
              go_quiet (fail)
              go_wp2
              go_quiet (fail)
              go_wp2_with (at_builtin; refine wpList_keep _ rfl _ _ rfl w5.heap.size F.length ids.length (mix (List.replicate ids.length 0) F) rfl (by exact RowIs.below (w := wr.drewN _) hR.out (box_below' _ _) hR.out.lt) hml.out (by omega) _ x _ rfl (by exact new_cell (wr.drewN _) _ _) ?_; intro w8 hR2 hgr2)
              rw [mix_set _ (by simp; omega)] at hR2
              exact ⟨⟨k + 1, r', by omega, hr2, by go_num, rfl, by rw [hst.out]; simp, HPA, by rw [hst.out]; exact hR2, (hB.out.drewN _).trans ((But.of_below (box_below' _ _)).trans (But.of_grown hgr2 (fun q hq => by cases hq; rfl)))⟩, by simp [intOf]; omega⟩
            · have hst := hid (hn.out (by rw [hmem, he.out]; simpa using hex))
              have hbq : (cs[r'] == x) = false := beq_eq_false_iff_ne.2 hex
              clear hmem hpas hex
              go_wp2
              go_quiet (fail)
              go_wp2
              go_quiet (fail)
              go_wp2
              exact ⟨⟨k + 1, r', by omega, hr2, by go_num, rfl, by rw [hst.out], HPA, by rw [hst.out]; exact hR.out, hB.out.drewN _⟩, by simp [intOf]; omega⟩
        · have er : r' = cs.length := by omega
          obtain ⟨hpas, hmem⟩ := pass_here hri1.out hri2.out hrr hr2 hP.out HX.out hbel.out (fun y hy => by have := (List.getElem?_eq_some_iff.1 hy).1; omega)
          have HPA := hid hpas
          have hst := hid (hn.out (by rw [hmem, List.getElem?_eq_none (by omega)]; simp))
          have hd1 : decide ((r' : Int) < (cs.length : Int)) = false := by simp; omega
          have hd2 : decide (r' < cs.length) = false := by simp; omega
          clear hmem hpas er
          go_wp2
          go_quiet (fail)
          go_wp2
          go_quiet (fail)
          go_wp2
          exact ⟨⟨k + 1, r', by omega, hr2, by go_num, rfl, by rw [hst.out], HPA, by rw [hst.out]; exact hR.out, hB.out.drewN _⟩, by simp [intOf]; omega⟩
    · have e : k = ids.length := by omega
      subst e
      have hall : keptTo (fun x => decide (x ∈ cs)) ids ids.length = ids.filter (fun x => decide (x ∈ cs)) := by simp [keptTo]
      have hFl := List.length_filter_le (fun x => decide (x ∈ cs)) ids
      rw [hall] at hR
      rw [hall]
      clear hall
      generalize ids.filter (fun x => decide (x ∈ cs)) = F at *
      have T := hid (tail5 RD.out hR.out hB.out (by omega))
      have HBel := hid (RD.out.below.trans ((box_below' w5 _).mono RD.out.below.size |>.trans (hB.out.below (by have := RD.out.below.size; simp; omega) (fun q hq => by have := RD.out.below.size; omega))))
      clear hR hB
      have hml := hid (mix_length (ids := ids) (F := F) hFl)
      go_wp2_with fail
      refine (eqInts26 ga gc (some ⟨w5.heap.size, 0, none⟩) ids.length F wr (by omega) T.out.got T.out.want).mono ?_
      rintro e w7 ⟨rfl, n7, rfl⟩
      go_wp2
      go_loopw [13] (fun i wq => ∃ (k n : Nat), k ≤ ids.length ∧ i = .int .i64 k ∧ wq = wr.drewN n) (fun i _ => ids.length - (intOf i).toNat)
      case atStart => exact ⟨0, n7, Nat.zero_le _, rfl, rfl⟩
      case round =>
        obtain ⟨k, m, hk1, rfl, rfl⟩ := hrel
        by_cases hlt : k < ids.length
        · by_cases hkF : k < F.length
          · obtain ⟨b, off, rfl, hb, hcell⟩ := T.out.work.at (k := k) (x := .int .i64 (F[k]'hkF)) (by simp [mix_head (List.getElem?_eq_getElem hkF)])
            obtain ⟨b2, off2, hbb, hb2, hcell2⟩ := T.out.want.at (k := k) (x := .int .i64 (F[k]'hkF)) (by simp [hkF])
            cases hbb
            rw [Nat.zero_add] at hcell2
            have hi0 : (0 : Int) ≤ (k : Int) := by omega
            have hi1 : (k : Int) < (ids.length : Int) := by omega
            have hi2 : (k : Int) < (F.length : Int) := by omega
            go_wp2
            go_quiet (fail)
            go_wp2
            exact ⟨⟨k + 1, m + nq, by omega, by go_num, by simp⟩, by simp [intOf]; omega⟩
          · obtain ⟨b, off, rfl, hb, hcell⟩ := T.out.work.at (k := k) (x := .int .i64 (ids[k]'hlt)) (by simp [mix_get (show F.length ≤ k by omega), hlt])
            obtain ⟨b2, off2, rfl, hb2, hcell2⟩ := T.out.copy.at (k := k) (x := .int .i64 (ids[k]'hlt)) (by simp [hlt])
            have hi0 : (0 : Int) ≤ (k : Int) := by omega
            have hi1 : (k : Int) < (ids.length : Int) := by omega
            go_wp2
            go_quiet (fail)
            go_wp2
            exact ⟨⟨k + 1, m + nq, by omega, by go_num, by simp⟩, by simp [intOf]; omega⟩
        · go_wp2
          go_ret
          exact ⟨rfl, below_dr HBel.out m⟩
end Go.Proofs.Qxb6603130a
