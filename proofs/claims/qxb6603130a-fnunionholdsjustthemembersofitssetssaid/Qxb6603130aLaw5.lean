import Derived.Test.Qxb6603130aAmong
namespace Go.Proofs.Qxb6603130a
open Go.RowKit

theorem make0_run (n : Nat) (hn : n ≤ 1048576) (w : World) :
    (Instr.makeSlice 28 (.int .i64 0) (.int .i64 (n : Int))).run Try.prog w = .ok (.slice (some ⟨w.heap.size, 0, none⟩) 0 n) (w.alloc (.cells (madeCells #[.int .i64 0] n) 3)) := by
  obtain ⟨i, hi, h0, h1, h2⟩ := info_parts Try.info3
  have hr := run_make (P := Try.prog) w 28 3 i (.int .i64 0) Try.underlying28 hi h0 .i64 .i64 0 n (by omega) (by omega) (by rw [h2]; omega) (by omega)
  simp only [Int.toNat_natCast, h1, Value.cells, Nat.mul_one] at hr
  exact hr

theorem row_made (w : World) (n : Nat) : RowIs (w.alloc (.cells (madeCells #[.int .i64 0] n) 3)) w.heap.size (mix (List.replicate n 0) []) := by
  have e : madeCells #[Value.int .i64 0] n = ((mix (List.replicate n 0) []).map (Value.int .i64)).toArray := by
    rw [← Array.toList_inj, toList_madeCells_one]
    simp [mix]
  unfold RowIs
  rw [← e]
  exact (MapKept.heap_alloc w _).1

/-- All that the law's last part reads. -/
structure Tail5 (w : World) (ga wa ia : Option Addr) (gw : Nat) (F ids : List Int) : Prop where
  got : Has w ga (F.map (.int .i64))
  want : Has w (some ⟨gw, 0, none⟩) (F.map (.int .i64))
  work : Has w wa ((mix ids F).map (.int .i64))
  copy : Has w ia (ids.map (.int .i64))

/-- The law's arguments. -/
structure AArgs (w : World) (a0 : Option Addr) (c0 : Nat) (cs : List Int) (a1 : Option Addr) (c1 : Nat) (zs : List Int) (a2 : Option Addr) (c2 : Nat) (ids : List Int) : Prop where
  h0 : Has w a0 (cs.map (.int .i64))
  h1 : Has w a1 (zs.map (.int .u64))
  h2 : Has w a2 (ids.map (.int .i64))
  n0 : a0 = none → c0 = 0 ∧ cs = []
  n1 : a1 = none → c1 = 0 ∧ zs = []
  n2 : a2 = none → c2 = 0 ∧ ids = []
  words : Words zs
  l0 : cs.length ≤ maxLen
  l1 : zs.length ≤ maxLen
  l2 : ids.length ≤ maxLen

/-- What is known behind the door. -/
structure Ready5 (w w5 : World) (cs zs ids F : List Int) (a0 a1 ia ga wa : Option Addr) : Prop where
  below : Below w.heap.size w w5
  list : Has w5 a0 (cs.map (.int .i64))
  set : Has w5 a1 (zs.map (.int .u64))
  got : Has w5 ga (F.map (.int .i64))
  work : Has w5 wa ((mix ids F).map (.int .i64))
  copy : Has w5 ia (ids.map (.int .i64))
  nil : ga.isNone = ia.isNone

theorem ICopy.lt {k : IntKind} {t : TypeId} {w w' : World} {a a' : Option Addr} {zs : List Int} {c' : Nat} (h : ICopy k t w w' a zs a' c') {x : Addr} (hx : a' = some x) : x.block = w.heap.size ∧ x.block < w'.heap.size := by
  obtain ⟨e, _, hb⟩ := h.hsome (by rw [hx]; simp)
  rw [hx] at e
  cases e
  exact ⟨rfl, (Array.getElem?_eq_some_iff.1 hb).1⟩

theorem ready5 {w w1 w2 w3 w4 w5 : World} {n : Nat} {a0 a1 a2 a0' a1' ia ga wa : Option Addr} {c0' c1' ic wc : Nat} {cs zs ids F : List Int}
    (i0 : ICopy .i64 3 (w.drewN n) w1 a0 cs a0' c0') (i1 : ICopy .u64 62 w1 w2 a1 zs a1' c1') (i2 : ICopy .i64 3 w2 w3 a2 ids ia ic) (i3 : ICopy .i64 3 w3 w4 ia ids wa wc)
    (hgn : ga = none ↔ wa = none) (hg1 : Has w5 ga (F.map (.int .i64))) (hg2 : Has w5 wa ((mix ids F).map (.int .i64))) (hg3 : But (fun k => ∃ x, wa = some x ∧ k = x.block) w4 w5) :
    Ready5 w w5 cs zs ids F a0' a1' ia ga wa := by
  have s0 := i0.below.size
  have s1 := i1.below.size
  have s2 := i2.below.size
  have s3 := i3.below.size
  have e0 : (w.drewN n).heap.size = w.heap.size := rfl
  have b35 : Below w3.heap.size w3 w5 := i3.below.trans (hg3.below s3 (fun k ⟨x, hx, hk⟩ => by have := (i3.lt hx).1; omega))
  have b25 : Below w2.heap.size w2 w5 := i2.below.trans (b35.mono s2)
  have b15 : Below w1.heap.size w1 w5 := i1.below.trans (b25.mono s1)
  have b05 : Below w.heap.size w w5 := (below_dr (Below.refl _ w) n).trans (i0.below.trans (b15.mono (by omega)))
  refine ⟨b05, i0.has.below b15, i1.has.below b25, hg1, hg2, i2.has.below b35, ?_⟩
  have h := hgn.trans i3.hnil
  cases ga <;> cases ia <;> simp at h ⊢

theorem Has.new {w : World} {a : Option Addr} {xs : List Value} (h : Has w a xs) {w' : World} (o : Obj) (hb : But (fun k => k = w.heap.size) (w.alloc o) w') : Has w' a xs := by
  have : Below w.heap.size w w' := (box_below' w o).trans (hb.below (by simp) (fun k hk => by omega))
  exact h.below this

theorem tail5 {w w5 wr : World} {cs zs ids F : List Int} {a0 a1 ia ga wa : Option Addr} {o : Obj} (R : Ready5 w w5 cs zs ids F a0 a1 ia ga wa) (hR : RowIs wr w5.heap.size (mix (List.replicate ids.length 0) F)) (hB : But (fun k => k = w5.heap.size) (w5.alloc o) wr) (_hF : F.length ≤ ids.length) : Tail5 wr ga wa ia w5.heap.size F ids :=
  ⟨R.got.new _ hB, hR.has _ (fun _ _ h => mix_head h), R.work.new _ hB, R.copy.new _ hB⟩

set_option maxRecDepth 100000 in
set_option maxHeartbeats 2000000 in
theorem law5_set (a0 : Option Addr) (c0 : Nat) (cs : List Int) (x1 : Addr) (c1 : Nat) (zs : List Int) (a2 : Option Addr) (c2 : Nat) (ids : List Int) (w : World) (hA : Hid (AArgs w a0 c0 cs (some x1) c1 zs a2 c2 ids)) :
    Calls Try.prog 5 #[.slice a0 cs.length c0, .slice (some x1) zs.length c1, .slice a2 ids.length c2] w fun e w' => e = .returned (.bool true) ∧ Below w.heap.size w w' := by
  have qnil := fun (w : World) (a : Option Addr) (n c n' c' : Nat) => Lib.run_eql_slice_nil w 28 _ a n c n' c' Try.underlying28
  have qnil2 := fun (w : World) (a : Option Addr) (n c n' c' : Nat) => run_neq_slice_nil_any w 29 _ a n c n' c' Try.underlying29
  go_enter Try.func5, Try.ntmps5
  go_wp2_with fail
  refine (bytes21 a0 cs.length c0 (some x1) zs.length c1 a2 ids.length c2 w hA.out.l0 hA.out.l1 hA.out.l2).mono ?_
  rintro e w' (⟨rfl, rfl⟩ | ⟨rfl, rfl, b0, b1, b2⟩)
  · go_wp2
    go_ret
    exact ⟨rfl, Below.refl _ _⟩
  go_wp2_with fail
  all_goals try (go_ret; exact ⟨rfl, Below.refl _ _⟩)
  refine (wf22_set a0 c0 cs x1 c1 zs a2 c2 ids _ b0 b1 b2 hA.out.words hA.out.h0 hA.out.h1 hA.out.h2).mono ?_
  rintro e w0 (⟨rfl, n, rfl⟩ | ⟨rfl, ⟨n, rfl⟩, hok⟩)
  · go_wp2
    go_ret
    exact ⟨rfl, below_dr (Below.refl _ _) n⟩
  have hin := hid (hok.1 (by simp))
  clear hok
  go_wp2_with fail
  refine (clone23 a0 c0 cs _ b0 hA.out.n0 (hA.out.h0.dr n)).mono ?_
  rintro e w1 ⟨a0', c0', rfl, i0⟩
  have I0 := hid i0
  clear i0
  go_wp2_with fail
  refine (clone24 (some x1) c1 zs _ b1 hA.out.n1 ((hA.out.h1.dr n).below I0.out.below)).mono ?_
  rintro e w2 ⟨a1', c1', rfl, i1⟩
  have hne : a1' ≠ none := fun q => by have := i1.hnil.1 q; cases this
  obtain ⟨rfl, rfl, _⟩ := i1.hsome hne
  have I1 := hid i1
  clear i1 hne
  go_wp2_with fail
  refine (clone23 a2 c2 ids _ b2 hA.out.n2 (((hA.out.h2.dr n).below I0.out.below).below I1.out.below)).mono ?_
  rintro e w3 ⟨ia, ic, rfl, i2⟩
  have I2 := hid i2
  clear i2
  go_wp2_with fail
  refine (clone23 ia ic ids _ b2 I2.out.hnone I2.out.has).mono ?_
  rintro e w4 ⟨wa, wc, rfl, i3⟩
  have I3 := hid i3
  clear i3
  go_wp2_with fail
  refine (door25_set a0' cs.length c0' ⟨w1.heap.size, 0, none⟩ zs.length zs wa wc ids w3 w4 ia I3.out b1 b2 hA.out.words ((I1.out.has.below I2.out.below).below I3.out.below) (by have := (I1.out.lt rfl).2; have := I2.out.below.size; show w1.heap.size < _; simp only at *; omega) hin.out).mono ?_
  rintro e w5 ⟨ga, gc, rfl, hgn, hg1, hg2, hg3⟩
  have RD := hid (ready5 I0.out I1.out I2.out I3.out hgn hg1 hg2 hg3)
  clear hgn hg1 hg2 hg3 I0 I1 I2 I3
  have hnn := RD.out.nil
  have hmk := make0_run ids.length b2
  go_wp2
  go_loopw [9, 10] (fun t i wr => ∃ (k : Nat), k ≤ ids.length ∧ i = .int .i64 k ∧ t = .slice (some ⟨w5.heap.size, 0, none⟩) (keptTo (fun x => bitOf zs x.toNat) ids k).length ids.length ∧ Hid (RowIs wr w5.heap.size (mix (List.replicate ids.length 0) (keptTo (fun x => bitOf zs x.toNat) ids k))) ∧ Hid (But (fun k => k = w5.heap.size) (w5.alloc (.cells (madeCells #[.int .i64 0] ids.length) 3)) wr)) (fun _ i _ => ids.length - (intOf i).toNat)
  case atStart => exact ⟨0, Nat.zero_le _, rfl, rfl, row_made w5 ids.length, ⟨rfl, rfl, rfl, Nat.le_refl _, fun _ _ _ => rfl⟩⟩
  case round =>
    obtain ⟨k, hk1, rfl, rfl, hR, hB⟩ := hrel
    by_cases hlt : k < ids.length
    · obtain ⟨x, hx⟩ : ∃ s, ids[k]? = some s := ⟨_, List.getElem?_eq_getElem hlt⟩
      obtain ⟨hx0, hx1⟩ := hin.out x (List.mem_of_getElem? hx)
      obtain ⟨xn, rfl⟩ := Int.eq_ofNat_of_zero_le hx0
      have hFl := keptTo_le (fun x => bitOf zs x.toNat) ids k
      have hy := hid (fun h => keptTo_yes (p := fun x => bitOf zs x.toNat) hx h)
      have hn := hid (fun h => keptTo_no (p := fun x => bitOf zs x.toNat) hx h)
      generalize keptTo (fun x => bitOf zs x.toNat) ids k = F at *
      obtain ⟨b, off, rfl, hb, hcell⟩ := (RD.out.copy.new _ hB.out).at (k := k) (x := .int .i64 xn) (by simp [hx])
      have hxl : xn < 64 * zs.length := by omega
      have hml := hid (mix_length (ids := List.replicate ids.length 0) (F := F) (by simp; omega))
      simp only [List.length_replicate] at hml
      have hset := hid (RD.out.set.new _ hB.out)
      clear hx
      go_wp2_with fail
      refine (bit18 _ _ zs xn wr hA.out.words b1 hxl hset).mono ?_
      rintro e w7 ⟨rfl, rfl⟩
      cases hbit : bitOf zs xn
      · have hst := hid (hn.out (by simpa using hbit))
        go_wp2
        exact ⟨⟨k + 1, by omega, by go_num, by rw [hst.out], by rw [hst.out]; exact hR, hB⟩, by simp [intOf]; omega⟩
      · have hst := hid (hy.out (by simpa using hbit))
        go_wp2_with (at_builtin; refine wpList_keep _ rfl _ _ rfl w5.heap.size F.length ids.length (mix (List.replicate ids.length 0) F) rfl (hR.out.below (box_below' _ _) hR.out.lt) hml.out (by omega) _ xn _ rfl (by simp) ?_; intro w8 hR2 hgr2)
        rw [mix_set _ (by simp; omega)] at hR2
        exact ⟨⟨k + 1, by omega, by go_num, by rw [hst.out]; simp, by rw [hst.out]; exact hR2, hB.out.trans ((But.of_below (box_below' _ _)).trans (But.of_grown hgr2 (fun q hq => by cases hq; rfl)))⟩, by simp [intOf]; omega⟩
    · have e : k = ids.length := by omega
      subst e
      have hall : keptTo (fun x => bitOf zs x.toNat) ids ids.length = ids.filter (fun x => bitOf zs x.toNat) := by simp [keptTo]
      have hFl := List.length_filter_le (fun x => bitOf zs x.toNat) ids
      rw [hall] at hR
      rw [hall]
      clear hall
      generalize ids.filter (fun x => bitOf zs x.toNat) = F at *
      have T := hid (tail5 RD.out hR.out hB.out (by omega))
      have HBel := hid (RD.out.below.trans ((box_below' w5 _).mono RD.out.below.size |>.trans (hB.out.below (by have := RD.out.below.size; simp; omega) (fun q hq => by have := RD.out.below.size; omega))))
      clear hR hB
      have hml := hid (mix_length (ids := ids) (F := F) hFl)
      go_wp2_with fail
      refine (eqInts26 ga gc (some ⟨w5.heap.size, 0, none⟩) ids.length F wr (by omega) T.out.got T.out.want).mono ?_
      rintro e w7 ⟨rfl, n7, rfl⟩
      go_wp2
      go_loopw [13] (fun i wq => ∃ (k n : Nat), k ≤ ids.length ∧ i = .int .i64 k ∧ wq = wr.drewN n) (fun i _ => ids.length - (intOf i).toNat)
      case atStart => exact ⟨0, n7, Nat.zero_le _, rfl, rfl⟩
      case round =>
        obtain ⟨k, m, hk1, rfl, rfl⟩ := hrel
        by_cases hlt : k < ids.length
        · by_cases hkF : k < F.length
          · obtain ⟨b, off, rfl, hb, hcell⟩ := T.out.work.at (k := k) (x := .int .i64 (F[k]'hkF)) (by simp [mix_head (List.getElem?_eq_getElem hkF)])
            obtain ⟨b2, off2, hbb, hb2, hcell2⟩ := T.out.want.at (k := k) (x := .int .i64 (F[k]'hkF)) (by simp [hkF])
            cases hbb
            rw [Nat.zero_add] at hcell2
            have hi0 : (0 : Int) ≤ (k : Int) := by omega
            have hi1 : (k : Int) < (ids.length : Int) := by omega
            have hi2 : (k : Int) < (F.length : Int) := by omega
            go_wp2
            go_quiet (fail)
            go_wp2
            exact ⟨⟨k + 1, m + nq, by omega, by go_num, by simp⟩, by simp [intOf]; omega⟩
          · obtain ⟨b, off, rfl, hb, hcell⟩ := T.out.work.at (k := k) (x := .int .i64 (ids[k]'hlt)) (by simp [mix_get (show F.length ≤ k by omega), hlt])
            obtain ⟨b2, off2, rfl, hb2, hcell2⟩ := T.out.copy.at (k := k) (x := .int .i64 (ids[k]'hlt)) (by simp [hlt])
            have hi0 : (0 : Int) ≤ (k : Int) := by omega
            have hi1 : (k : Int) < (ids.length : Int) := by omega
            go_wp2
            go_quiet (fail)
            go_wp2
            exact ⟨⟨k + 1, m + nq, by omega, by go_num, by simp⟩, by simp [intOf]; omega⟩
        · go_wp2
          go_ret
          exact ⟨rfl, below_dr HBel.out m⟩
end Go.Proofs.Qxb6603130a
