import Derived.Test.Qxb6603130aLaw3
namespace Go.Proofs.Qxb6603130a
open Go.RowKit

theorem mark_end {w : World} {g n k q : Nat} {Js Ts : List Sl} {xs ys : List Int} {xa : Option Addr} {xc yc : Nat} (h : Mark w g n (fun i => memTo Js Ts k i || decide ((i : Int) ∈ xs.take q))) (hq : xs.length ≤ q) (hm : ∀ i, memTo Js Ts (k + 1) i = (memTo Js Ts k i || mem1 (xa, xc, xs) (none, yc, ys) i)) : Mark w g n (memTo Js Ts (k + 1)) :=
  h.congr (fun i _ => by rw [hm i, List.take_of_length_le hq]; simp [mem1])

theorem mark_endb {w : World} {g n k q : Nat} {Js Ts : List Sl} {xs ys : List Int} {xa : Option Addr} {y : Addr} {xc yc : Nat} (h : Mark w g n (fun i => memTo Js Ts k i || (decide (i < q) && bitOf ys i))) (hq : n ≤ q) (hm : ∀ i, memTo Js Ts (k + 1) i = (memTo Js Ts k i || mem1 (xa, xc, xs) (some y, yc, ys) i)) : Mark w g n (memTo Js Ts (k + 1)) :=
  h.congr (fun i hi => by rw [hm i]; simp [mem1, show i < q by omega])

theorem Hands.below {w w' : World} {a0 a1 : Option Addr} {Is Ss : List Sl} (h : Hands w a0 a1 Is Ss) (hb : Below w.heap.size w w') : Hands w' a0 a1 Is Ss :=
  ⟨h.len, h.r0.below hb, h.r1.below hb, fun x hx => (h.hI x hx).below hb, fun x hx => (h.hS x hx).below hb, h.nI, h.nS⟩

theorem any_some {Ts : List Sl} {k : Nat} (hk : Ts.length ≤ k) (h : anyB Ts k = true) : ∃ x ∈ Ts, x.1 ≠ none := by
  unfold anyB at h
  rw [List.take_of_length_le hk, List.any_eq_true] at h
  obtain ⟨y, hy, hs⟩ := h
  exact ⟨y, hy, fun e => by rw [e] at hs; cases hs⟩

theorem tidy_of {Js Ts : List Sl} {n m : Nat} {f : Nat → Bool} (hj : Js.length = m) (ht : Ts.length = m) (hall : ∀ y ∈ Ts, y.1 = none) (hok : UnionOk Js Ts n) (hf : memTo Js Ts m = f) : tidy (cat Js) = below f n := by
  subst hj
  subst hf
  refine tidy_below (fun v hv => ?_) (fun i _ => memTo_all ht.symm hall i)
  obtain ⟨x, hx, hv⟩ := mem_cat.1 hv
  obtain ⟨k, hk, rfl⟩ := List.getElem_of_mem hx
  have hk2 : k < Ts.length := by omega
  exact (hok k _ _ (List.getElem?_eq_getElem hk) (List.getElem?_eq_getElem hk2)).1 (hall _ (List.getElem_mem hk2)) v hv

theorem nil_of {f : Nat → Bool} {n : Nat} {ga : Option Addr} (h : ga = none ↔ below f n = []) : ga.isNone = ((cnt f n : Int) == 0) := by
  have e : below f n = [] ↔ cnt f n = 0 := by rw [← below_length, List.length_eq_zero_iff]
  rw [e] at h
  by_cases q : cnt f n = 0
  · rw [h.2 q, q]; rfl
  · have : ga ≠ none := fun k => q (h.1 k)
    cases ga with
    | none => exact absurd rfl this
    | some x =>
      show false = _
      symm
      rw [beq_eq_false_iff_ne]
      omega

theorem zz15_list' (m : Nat) (a0 a1 : Option Addr) (c0 c1 : Nat) (Is Ss : List Sl) (n : Nat) (w : World) (hl : Is.length = m) (hn : n ≤ 65536) (hm : m ≤ 131072) (hm1 : m ≠ 1) (hH : Hands w a0 a1 Is Ss) (htot : total Is ≤ 1048576)
    (hb1 : ∀ x ∈ Ss, x.1 = none) (hb2 : total Is < (n + 63) / 64) :
    Calls Try.prog 15 #[.slice a0 m c0, .slice a1 m c1, .int .i64 n] w (ZZAny (PhiList (tidy (cat Is))) w) := by
  subst hl
  exact zz15_list a0 a1 c0 c1 Is Ss n w hn hm hm1 hH htot hb1 hb2

theorem zz15_words' (m : Nat) (a0 a1 : Option Addr) (c0 c1 : Nat) (Is Ss : List Sl) (n : Nat) (w : World) (hl : Is.length = m) (hn : n ≤ 65536) (hm : m ≤ 131072) (hm1 : m ≠ 1) (hH : Hands w a0 a1 Is Ss) (htot : total Is ≤ 1048576)
    (hb : (∃ x ∈ Ss, x.1 ≠ none) ∨ ((∀ x ∈ Ss, x.1 = none) ∧ (n + 63) / 64 ≤ total Is)) (hok : UnionOk Is Ss n) (hw : ∀ x ∈ Ss, Words x.2.2) :
    Calls Try.prog 15 #[.slice a0 m c0, .slice a1 m c1, .int .i64 n] w (ZZAny (PhiBits (memTo Is Ss m) ((n + 63) / 64)) w) := by
  subst hl
  exact zz15_words a0 a1 c0 c1 Is Ss n w hn hm hm1 hH htot hb hok hw

theorem bit18' (W : Nat) (a : Option Addr) (c : Nat) (zs : List Int) (i : Nat) (w : World) (hW : zs.length = W) (hz : Words zs) (hl : W ≤ 1048576) (hi : i < 64 * W) (hk : Has w a (zs.map (.int .u64))) :
    Calls Try.prog 18 #[.slice a W c, .int .i64 i] w fun e w' => e = .returned (.bool (bitOf zs i)) ∧ w' = w := by
  subst hW
  exact bit18 a c zs i w hz hl hi hk

theorem RowU.has' {w : World} {g : Nat} {L : List Int} (h : RowU w g L) : Has w (some ⟨g, 0, none⟩) (L.map (.int .u64)) := by
  intro j hj
  refine ⟨_, _, rfl, h.lt, ?_⟩
  have hj' : j < L.length := by simpa using hj
  rw [Nat.zero_add, h.cell hj']
  simp [hj']

set_option maxRecDepth 100000 in
set_option maxHeartbeats 8000000 in
theorem law3_many (a0 : Option Addr) (c0 : Nat) (Is : List Sl) (a1 : Option Addr) (c1 : Nat) (Ss : List Sl) (z : Int) (w : World) (hA : Hid (UArgs w a0 c0 Is a1 c1 Ss)) (h1 : Hid (Is.length ≠ 1)) :
    Calls Try.prog 3 #[.slice a0 Is.length c0, .slice a1 Ss.length c1, .int .i64 z] w fun e w' => e = .returned (.bool true) ∧ Below w.heap.size w w' := by
  have qn28 := fun (w : World) (a : Option Addr) (n c n' c' : Nat) => run_neq_slice_nil_any w 28 _ a n c n' c' Try.underlying28
  have qn29 := fun (w : World) (a : Option Addr) (n c n' c' : Nat) => run_neq_slice_nil_any w 29 _ a n c n' c' Try.underlying29
  have qe28 := fun (w : World) (a : Option Addr) (n c n' c' : Nat) => Lib.run_eql_slice_nil w 28 _ a n c n' c' Try.underlying28
  have qe29 := fun (w : World) (a : Option Addr) (n c n' c' : Nat) => Lib.run_eql_slice_nil w 29 _ a n c n' c' Try.underlying29
  have h1i : ((Is.length : Int) == 1) = false := beq_eq_false_iff_ne.2 (by have := h1.out; omega)
  have h1n : ((Is.length : Int) != 1) = true := by simp; have := h1.out; omega
  go_enter Try.func3, Try.ntmps3
  go_wp2_with fail
  refine (bytes10 a0 c0 Is a1 c1 Ss (.int .i64 z) w hA).mono ?_
  rintro e w' (⟨rfl, rfl⟩ | ⟨rfl, rfl, -⟩)
  · go_wp2
    go_ret
    exact ⟨rfl, Below.refl _ _⟩
  go_wp2_with fail
  refine (size11 a0 c0 Is a1 c1 Ss _ hA).mono ?_
  rintro e w' (⟨rfl, rfl⟩ | ⟨rfl, rfl, b0, b1, b2, b3⟩)
  · go_wp2
    go_ret
    exact ⟨rfl, Below.refl _ _⟩
  by_cases hlen : Is.length = Ss.length
  case neg =>
    have hl2 : ((Is.length : Int) != (Ss.length : Int)) = true := by simp; omega
    go_wp2
    go_ret
    exact ⟨rfl, Below.refl _ _⟩
  have hl2 : ((Is.length : Int) != (Ss.length : Int)) = false := by simp; omega
  have HL := hid hlen
  clear hlen
  by_cases hz0 : z < 0
  · have hz0d : decide (z < 0) = true := by simpa using hz0
    go_wp2
    go_ret
    exact ⟨rfl, Below.refl _ _⟩
  have hz0d : decide (z < 0) = false := by simpa using hz0
  by_cases hz1 : 65536 < z
  · have hz1d : decide (65536 < z) = true := by simpa using hz1
    go_wp2
    go_ret
    exact ⟨rfl, Below.refl _ _⟩
  have hz1d : decide (65536 < z) = false := by simpa using hz1
  obtain ⟨n, rfl⟩ := Int.eq_ofNat_of_zero_le (show 0 ≤ z by omega)
  have hn : n ≤ 65536 := by omega
  go_wp2_with fail
  refine (wf12' a0 c0 Is a1 c1 Ss n _ hA.out hn HL.out b0 b2 b3).mono ?_
  rintro e w1 (⟨rfl, q, rfl⟩ | ⟨rfl, ⟨q, rfl⟩, hok⟩)
  · go_wp2
    go_ret
    exact ⟨rfl, below_dr (Below.refl _ _) q⟩
  have OK0 := hid hok
  clear hok hz0 hz1 hz0d hz1d
  go_wp2_with fail
  refine (clone13' Is.length a0 c0 Is _ rfl b0 b2 (hA.out.r0.dr q) (fun x hx => (hA.out.hI x hx).dr q) hA.out.nI hA.out.n0).mono ?_
  rintro e w2 ⟨a0', c0', Js, rfl, lj⟩
  have LJ := hid lj
  clear lj
  go_wp2_with fail
  refine (clone14' Is.length a1 c1 Ss _ HL.out.symm b1 b3 ((hA.out.r1.dr q).below LJ.out.below) (fun x hx => ((hA.out.hS x hx).dr q).below LJ.out.below) hA.out.nS hA.out.n1).mono ?_
  rintro e w3 ⟨a1', c1', Ts, rfl, lt⟩
  have R := hid (ready3 hA.out HL.out b2 b3 LJ.out lt)
  have OK := hid (twins_ok LJ.out.len LJ.out.same lt.len lt.same HL.out OK0.out)
  have hJl := hid R.out.len
  have hTl := hid (R.out.hands.len.symm.trans R.out.len)
  clear lt LJ OK0 hl2 HL b1 b2 b3
  have hmk := make_run 34 4 (.bool false) 1 Try.underlying34 Try.info4 rfl n (by omega) (by omega)
  have hst := hid (mark_made w3 n)
  go_wp2
  go_loopw [11, 12, 13] (fun a t i wr => ∃ (k tt : Nat), k ≤ Is.length ∧ i = .int .i64 k ∧ a = .bool (anyB Ts k) ∧ t = .int .i64 tt ∧ tt ≤ total (Js.take k) ∧ Hid (anyB Ts k = false → tt = total (Js.take k)) ∧ Hid (Mark wr w3.heap.size n (memTo Js Ts k)) ∧ Hid (Below w3.heap.size w3 wr)) (fun _ _ i _ => Is.length - (intOf i).toNat)
  case atStart => exact ⟨0, 0, Nat.zero_le _, rfl, rfl, rfl, Nat.zero_le _, fun _ => rfl, hst.out.congr (fun i _ => by simp [memTo]), box_below' _ _⟩
  case round =>
    clear hst
    obtain ⟨k, tt, hk1, rfl, rfl, rfl, htt, hta, hM, hB⟩ := hrel
    by_cases hlt : k < Is.length
    · obtain ⟨⟨xa, xc, xs⟩, hx⟩ : ∃ s, Js[k]? = some s := ⟨_, List.getElem?_eq_getElem (by rw [hJl.out]; exact hlt)⟩
      obtain ⟨⟨ya, yc, ys⟩, hy⟩ : ∃ s, Ts[k]? = some s := ⟨_, List.getElem?_eq_getElem (by rw [hTl.out]; exact hlt)⟩
      obtain ⟨b, off, rfl, hb, hc3⟩ := R.out.hands.r0.at (k := k) (x := .slice xa xs.length xc) (by simp [hx, sI])
      obtain ⟨b1, off1, rfl, hb1, hc31⟩ := R.out.hands.r1.at (k := k) (x := .slice ya ys.length yc) (by simp [hy, sI])
      have hcell : wr.cell? ⟨b, off + k, none⟩ = some (.slice xa xs.length xc) := (hB.out.cell hb).trans hc3
      have hcell1 : wr.cell? ⟨b1, off1 + k, none⟩ = some (.slice ya ys.length yc) := (hB.out.cell hb1).trans hc31
      have HC3 := hid hc3
      have HC31 := hid hc31
      have hxm := List.mem_of_getElem? hx
      have hym := List.mem_of_getElem? hy
      have ht1 := total_take hx
      have ht2 := total_le (k + 1) Js
      have ht3 := R.out.tot
      simp only at ht1
      have HT := hid ht1
      have hsum : tt + xs.length ≤ 131072 := by omega
      have hyl : ys.length ≤ 131072 := Nat.le_trans (total_mem hym) R.out.totS
      have hxh := hid (R.out.hands.hI _ hxm)
      have hyh := hid (R.out.hands.hS _ hym)
      have hyw := hid (R.out.words _ hym)
      have hso := hid (OK.out k _ _ hx hy)
      have hms := hid (fun i => memTo_succ hx hy i)
      have hab := hid (anyB_succ hy)
      clear hx hy hxm hym ht1 ht2 ht3 hc3 hc31
      cases ya with
      | none =>
        have hin := hid (hso.out.1 rfl)
        go_wp2
        go_loopw [15] (fun i wq => ∃ (j : Nat), j ≤ xs.length ∧ i = .int .i64 j ∧ Hid (Mark wq w3.heap.size n (fun i => memTo Js Ts k i || decide ((i : Int) ∈ xs.take j))) ∧ Hid (Below w3.heap.size w3 wq)) (fun i _ => xs.length - (intOf i).toNat)
        case atStart => exact ⟨0, Nat.zero_le _, rfl, hM.out.congr (fun i _ => by simp), hB⟩
        case round =>
          clear hM hB hcell hcell1
          obtain ⟨j, hj1, rfl, hM, hB⟩ := hrel
          have hcell : wr.cell? ⟨b, off + k, none⟩ = some (.slice xa xs.length xc) := (hB.out.cell hb).trans HC3.out
          by_cases hjt : j < xs.length
          · obtain ⟨xv, hxv⟩ : ∃ x, xs[j]? = some x := ⟨_, List.getElem?_eq_getElem hjt⟩
            obtain ⟨hv0, hv1⟩ := hin.out xv (List.mem_of_getElem? hxv)
            obtain ⟨xn, rfl⟩ := Int.eq_ofNat_of_zero_le hv0
            obtain ⟨b2, off2, rfl, hb2, hcell2⟩ := (hxh.out.below hB.out).at (k := j) (x := .int .i64 xn) (by simp [hxv])
            have hxn : xn < n := by omega
            have hmc := hM.out.cell hxn
            have hmf := hM.out.free xn
            have hnx := hid (mark_ids_set hM.out hxv)
            clear hxv hM
            go_wp2
            exact ⟨⟨j + 1, by omega, by go_num, hnx, hB.out.setCell (Nat.le_refl _) _⟩, by simp [intOf]; omega⟩
          · have hfin := hid (mark_end hM.out (show xs.length ≤ j by omega) hms.out)
            go_wp2
            exact ⟨⟨k + 1, tt + xs.length, by omega, by go_num, by rw [hab.out]; simp, by go_num, by rw [HT.out]; omega, fun h => by
              rw [hab.out] at h
              simp at h
              rw [hta.out h, HT.out], hfin, hB⟩, by simp [intOf]; omega⟩
      | some y =>
        have hw := hid (hso.out.2 (by simp)).1
        go_wp2
        go_loopw [14] (fun i wq => ∃ (j : Nat), j ≤ n ∧ i = .int .i64 j ∧ Hid (Mark wq w3.heap.size n (fun i => memTo Js Ts k i || (decide (i < j) && bitOf ys i))) ∧ Hid (Below w3.heap.size w3 wq)) (fun i _ => n - (intOf i).toNat)
        case atStart => exact ⟨0, Nat.zero_le _, rfl, hM.out.congr (fun i _ => by simp), hB⟩
        case round =>
          clear hM hB hcell hcell1
          obtain ⟨j, hj1, rfl, hM, hB⟩ := hrel
          have hcell1 : wr.cell? ⟨b1, off1 + k, none⟩ = some (.slice (some y) ys.length yc) := (hB.out.cell hb1).trans HC31.out
          by_cases hjt : j < n
          · have hmc := hM.out.cell hjt
            have hmf := hM.out.free j
            go_wp2_with fail
            refine (bit18 (some y) yc ys j wr hyw (by omega) (by have := hw.out; omega) (hyh.out.below hB.out)).mono ?_
            rintro e w7 ⟨rfl, rfl⟩
            cases hbit : bitOf ys j
            · have hst := hid (mark_bits hM.out hbit)
              go_wp2
              exact ⟨⟨j + 1, by omega, by go_num, hst, hB⟩, by simp [intOf]; omega⟩
            · have hst := hid (mark_bits_set hM.out hbit)
              go_wp2
              exact ⟨⟨j + 1, by omega, by go_num, hst, hB.out.setCell (Nat.le_refl _) _⟩, by simp [intOf]; omega⟩
          · have hfin := hid (mark_endb hM.out (show n ≤ j by omega) hms.out)
            go_wp2
            exact ⟨⟨k + 1, tt, by omega, by go_num, by rw [hab.out]; simp, rfl, by rw [HT.out]; omega, fun h => by
              rw [hab.out] at h
              simp at h, hfin, hB⟩, by simp [intOf]; omega⟩
    · obtain rfl : k = Is.length := by omega
      generalize hf : memTo Js Ts Is.length = f at *
      have HF := hid hf
      clear hf
      go_wp2
      go_loop [16, 17] (fun m i => ∃ (j : Nat), j ≤ n ∧ i = .int .i64 j ∧ m = .int .i64 (cnt f j)) (fun _ i => n - (intOf i).toNat)
      case atStart => exact ⟨0, Nat.zero_le _, rfl, rfl⟩
      case round =>
        obtain ⟨j, hj1, rfl, rfl⟩ := hrel
        have hcl := cnt_le f j
        by_cases hjt : j < n
        · have hmc := hM.out.cell hjt
          cases hfj : f j
          · have hst := cnt_no hfj
            rw [hfj] at hmc
            have hst := hid hst
            go_wp2
            exact ⟨⟨j + 1, by omega, by go_num, by rw [hst.out]⟩, by simp [intOf]; omega⟩
          · have hst := cnt_yes hfj
            rw [hfj] at hmc
            have hst := hid hst
            go_wp2
            exact ⟨⟨j + 1, by omega, by go_num, by rw [hst.out]; go_num⟩, by simp [intOf]; omega⟩
        · obtain rfl : n = j := by omega
          have hHw := hid (R.out.hands.below hB.out)
          have htj := R.out.tot
          have HBw := hid (R.out.below.trans (hB.out.mono R.out.below.size))
          by_cases hany : anyB Ts Is.length = false
          · have hall := hid ((anyB_all (Nat.le_of_eq hTl.out)).1 hany)
            have htt2 : tt = total Js := by rw [hta.out hany, ← hJl.out, List.take_length]
            have htt2 := hid htt2
            by_cases hbig : tt < (n + 63) / 64
            · have hbi : (tt : Int) < ((n : Int) + 63) / 64 := by omega
              have hMe := hid (tidy_of (m := Is.length) hJl.out hTl.out hall.out OK.out HF.out)
              go_wp2_with fail
              refine (zz15_list' Is.length a0' a1' c0' c1' Js Ts n wr hJl.out hn b0 h1.out hHw.out (by omega) hall.out (by rw [← htt2.out]; exact hbig)).mono ?_
              rintro e w5 ⟨ga, gn, gc, sa, sn, sc, rfl, ⟨rfl, rfl, rfl, hgn, hh, hnil⟩, hB5⟩
              rw [hMe.out] at hgn hh hnil
              rw [below_length] at hgn
              subst hgn
              have hM5 := hid (hM.out.grow hB5)
              have HB5 := hid (HBw.out.trans (hB5.mono HBw.out.size))
              have HH := hid hh
              have HN := nil_of hnil
              have hcn := cnt_le f n
              clear hh hnil hB5 hM hB HBw hHw hMe
              go_wp2
              clear HN
              go_loop [20] (fun i => ∃ (j : Nat), j ≤ cnt f n ∧ i = .int .i64 j) (fun i => cnt f n - (intOf i).toNat)
              case atStart => exact ⟨0, Nat.zero_le _, rfl⟩
              case round =>
                obtain ⟨j, hj1, rfl⟩ := hrel
                by_cases hjt : j < cnt f n
                · obtain ⟨v, hv⟩ : ∃ v, (below f n)[j]? = some v := ⟨_, List.getElem?_eq_getElem (by rw [below_length]; exact hjt)⟩
                  obtain ⟨xn, rfl, hxn, hfx⟩ := below_get hv
                  obtain ⟨b, off, rfl, hb, hcell⟩ := HH.out.at (k := j) (x := .int .i64 xn) (by simp [hv])
                  have hmc := hM5.out.cell hxn
                  rw [hfx] at hmc
                  by_cases hj0 : j = 0
                  · subst hj0
                    rw [Nat.add_zero] at hcell
                    clear hv
                    go_wp2
                    exact ⟨⟨1, by omega, by go_num⟩, by simp [intOf]; omega⟩
                  · obtain ⟨u, hu⟩ : ∃ u, (below f n)[j - 1]? = some u := ⟨_, List.getElem?_eq_getElem (by rw [below_length]; omega)⟩
                    have hlt := below_lt hu (by rw [show j - 1 + 1 = j by omega]; exact hv)
                    obtain ⟨b', off', hbb, _, hcell'⟩ := HH.out.at (k := j - 1) (x := .int .i64 u) (by simp [hu])
                    cases hbb
                    have hi0 : (1 : Int) ≤ (j : Int) := by omega
                    have hi1 : (j : Int) < (cnt f n : Int) := by omega
                    have hi2 : (0 : Int) < (j : Int) := by omega
                    have hi3 : ¬ (xn : Int) ≤ u := by omega
                    clear hv hu
                    go_wp2
                    exact ⟨⟨j + 1, by omega, by go_num⟩, by simp [intOf]; omega⟩
                · go_wp2
                  go_ret
                  exact ⟨rfl, HB5.out⟩
            · have hbi : ((n : Int) + 63) / 64 ≤ (tt : Int) := by omega
              go_wp2_with fail
              refine (zz15_words' Is.length a0' a1' c0' c1' Js Ts n wr hJl.out hn b0 h1.out hHw.out (by omega) (.inr ⟨hall.out, by rw [← htt2.out]; omega⟩) OK.out R.out.words).mono ?_
              rintro e w5 ⟨ga, gn, gc, sa, sn, sc, rfl, ⟨rfl, rfl, rfl, rfl, rfl, gs, L, rfl, hL⟩, hB5⟩
              rw [HF.out] at hL
              have hM5 := hid (hM.out.grow hB5)
              have HB5 := hid (HBw.out.trans (hB5.mono HBw.out.size))
              have HLL := hid hL
              clear hL hB5 hM hB HBw hHw
              go_wp2
              go_loop [22] (fun i => ∃ (j : Nat), j ≤ 64 * ((n + 63) / 64) ∧ i = .int .i64 j) (fun i => 64 * ((n + 63) / 64) - (intOf i).toNat)
              case atStart => exact ⟨0, Nat.zero_le _, rfl⟩
              case round =>
                obtain ⟨j, hj1, rfl⟩ := hrel
                by_cases hjt : j < 64 * ((n + 63) / 64)
                · have hji : (j : Int) < 64 * (((n : Int) + 63) / 64) := by omega
                  have hbj := HLL.out.bit j hjt
                  by_cases hjn : j < n
                  · have hmc := hM5.out.cell hjn
                    have HBJ := hid hbj
                    clear hbj
                    go_wp2_with fail
                    refine (bit18' ((n + 63) / 64) (some ⟨gs, 0, none⟩) ((n + 63) / 64) L j w5 HLL.out.len HLL.out.words (by omega) hjt HLL.out.row.has').mono ?_
                    rintro e w7 ⟨rfl, rfl⟩
                    rw [HBJ.out]
                    go_wp2
                    exact ⟨⟨j + 1, by omega, by go_num⟩, by simp [intOf]; omega⟩
                  · have hno := memTo_high (k := Is.length) OK.out (show n ≤ j by omega) hjt
                    rw [HF.out] at hno
                    rw [hno] at hbj
                    have HBJ := hid hbj
                    clear hbj hno
                    go_wp2_with fail
                    refine (bit18' ((n + 63) / 64) (some ⟨gs, 0, none⟩) ((n + 63) / 64) L j w5 HLL.out.len HLL.out.words (by omega) hjt HLL.out.row.has').mono ?_
                    rintro e w7 ⟨rfl, rfl⟩
                    rw [HBJ.out]
                    go_wp2
                    exact ⟨⟨j + 1, by omega, by go_num⟩, by simp [intOf]; omega⟩
                · have hji : ¬ (j : Int) < 64 * (((n : Int) + 63) / 64) := by omega
                  go_wp2
                  go_ret
                  exact ⟨rfl, HB5.out⟩
          · have hany : anyB Ts Is.length = true := by simpa using hany
            have hsome := hid (any_some (Nat.le_of_eq hTl.out) hany)
            go_wp2_with fail
            refine (zz15_words' Is.length a0' a1' c0' c1' Js Ts n wr hJl.out hn b0 h1.out hHw.out (by omega) (.inl hsome.out) OK.out R.out.words).mono ?_
            rintro e w5 ⟨ga, gn, gc, sa, sn, sc, rfl, ⟨rfl, rfl, rfl, rfl, rfl, gs, L, rfl, hL⟩, hB5⟩
            rw [HF.out] at hL
            have hM5 := hid (hM.out.grow hB5)
            have HB5 := hid (HBw.out.trans (hB5.mono HBw.out.size))
            have HLL := hid hL
            clear hL hB5 hM hB HBw hHw
            go_wp2
            go_loop [22] (fun i => ∃ (j : Nat), j ≤ 64 * ((n + 63) / 64) ∧ i = .int .i64 j) (fun i => 64 * ((n + 63) / 64) - (intOf i).toNat)
            case atStart => exact ⟨0, Nat.zero_le _, rfl⟩
            case round =>
              obtain ⟨j, hj1, rfl⟩ := hrel
              by_cases hjt : j < 64 * ((n + 63) / 64)
              · have hji : (j : Int) < 64 * (((n : Int) + 63) / 64) := by omega
                have hbj := HLL.out.bit j hjt
                by_cases hjn : j < n
                · have hmc := hM5.out.cell hjn
                  have HBJ := hid hbj
                  clear hbj
                  go_wp2_with fail
                  refine (bit18' ((n + 63) / 64) (some ⟨gs, 0, none⟩) ((n + 63) / 64) L j w5 HLL.out.len HLL.out.words (by omega) hjt HLL.out.row.has').mono ?_
                  rintro e w7 ⟨rfl, rfl⟩
                  rw [HBJ.out]
                  go_wp2
                  exact ⟨⟨j + 1, by omega, by go_num⟩, by simp [intOf]; omega⟩
                · have hno := memTo_high (k := Is.length) OK.out (show n ≤ j by omega) hjt
                  rw [HF.out] at hno
                  rw [hno] at hbj
                  have HBJ := hid hbj
                  clear hbj hno
                  go_wp2_with fail
                  refine (bit18' ((n + 63) / 64) (some ⟨gs, 0, none⟩) ((n + 63) / 64) L j w5 HLL.out.len HLL.out.words (by omega) hjt HLL.out.row.has').mono ?_
                  rintro e w7 ⟨rfl, rfl⟩
                  rw [HBJ.out]
                  go_wp2
                  exact ⟨⟨j + 1, by omega, by go_num⟩, by simp [intOf]; omega⟩
              · have hji : ¬ (j : Int) < 64 * (((n : Int) + 63) / 64) := by omega
                go_wp2
                go_ret
                exact ⟨rfl, HB5.out⟩
end Go.Proofs.Qxb6603130a
