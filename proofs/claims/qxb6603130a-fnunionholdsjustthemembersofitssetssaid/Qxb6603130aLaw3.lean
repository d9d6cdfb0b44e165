import Derived.Test.Qxb6603130aMarks
namespace Go.Proofs.Qxb6603130a
open Go.RowKit

theorem one_of {l : List Sl} (h : l.length = 1) : ∃ x, l = [x] := by
  match l, h with
  | [x], _ => exact ⟨x, rfl⟩

set_option maxRecDepth 100000 in
set_option maxHeartbeats 4000000 in
theorem law3_one (a0 : Option Addr) (c0 : Nat) (Is : List Sl) (a1 : Option Addr) (c1 : Nat) (Ss : List Sl) (z : Int) (w : World) (hA : Hid (UArgs w a0 c0 Is a1 c1 Ss)) (h1 : Hid (Is.length = 1)) :
    Calls Try.prog 3 #[.slice a0 Is.length c0, .slice a1 Ss.length c1, .int .i64 z] w fun e w' => e = .returned (.bool true) ∧ Below w.heap.size w w' := by
  have h1i : ((Is.length : Int) == 1) = true := by rw [beq_iff_eq]; have := h1.out; omega
  have h1n : ((Is.length : Int) != 1) = false := by simp; have := h1.out; omega
  go_enter Try.func3, Try.ntmps3
  go_wp2_with fail
  refine (bytes10 a0 c0 Is a1 c1 Ss (.int .i64 z) w hA).mono ?_
  rintro e w' (⟨rfl, rfl⟩ | ⟨rfl, rfl, -⟩)
  · go_wp2
    go_ret
    exact ⟨rfl, Below.refl _ _⟩
  go_wp2_with fail
  refine (size11 a0 c0 Is a1 c1 Ss _ hA).mono ?_
  rintro e w' (⟨rfl, rfl⟩ | ⟨rfl, rfl, b0, b1, b2, b3⟩)
  · go_wp2
    go_ret
    exact ⟨rfl, Below.refl _ _⟩
  by_cases hlen : Is.length = Ss.length
  case neg =>
    have hl2 : ((Is.length : Int) != (Ss.length : Int)) = true := by simp; omega
    go_wp2
    go_ret
    exact ⟨rfl, Below.refl _ _⟩
  have hl2 : ((Is.length : Int) != (Ss.length : Int)) = false := by simp; omega
  have HL := hid hlen
  clear hlen
  go_wp2_with fail
  refine (clone13' 1 a0 c0 Is _ h1.out b0 b2 hA.out.r0 hA.out.hI hA.out.nI hA.out.n0).mono ?_
  rintro e w2 ⟨a0', c0', Js, rfl, lj⟩
  have LJ := hid lj
  clear lj
  go_wp2_with fail
  refine (clone14' 1 a1 c1 Ss _ (by have := h1.out; have := HL.out; omega) b1 b3 (hA.out.r1.below LJ.out.below) (fun x hx => (hA.out.hS x hx).below LJ.out.below) hA.out.nS hA.out.n1).mono ?_
  rintro e w3 ⟨a1', c1', Ts, rfl, lt⟩
  have R := ready3 (q := 0) hA.out HL.out b2 b3 LJ.out lt
  clear lt LJ
  have hJ1 : Js.length = 1 := R.len.trans h1.out
  have hT1 : Ts.length = 1 := by rw [← R.hands.len]; exact hJ1
  obtain ⟨x, rfl⟩ := one_of hJ1
  obtain ⟨y, rfl⟩ := one_of hT1
  clear hJ1 hT1
  have R := hid R
  go_wp2_with fail
  refine (zz15_one a0' a1' c0' c1' x y z w3 R.out.hands).mono ?_
  rintro e w4 ⟨ga, gn, gc, sa, sn, sc, rfl, ⟨rfl, rfl, rfl, rfl, rfl, rfl, hx, hy⟩, hB⟩
  obtain ⟨b, off, rfl, hb, hcell⟩ := (R.out.hands.r0.below hB).at (k := 0) (x := .slice x.1 x.2.2.length x.2.1) (by simp [sI])
  obtain ⟨b', off', rfl, hb', hcell'⟩ := (R.out.hands.r1.below hB).at (k := 0) (x := .slice y.1 y.2.2.length y.2.1) (by simp [sI])
  rw [Nat.add_zero] at hcell hcell'
  have hxl : x.2.2.length ≤ 1048576 := by have := total_mem (Is := [x]) (x := x) (by simp); have := R.out.tot; omega
  have hyl : y.2.2.length ≤ 1048576 := by have := total_mem (Is := [y]) (x := y) (by simp); have := R.out.totS; omega
  have HX := hid hx
  have HY := hid hy
  have HB := hid (R.out.below.trans (hB.mono R.out.below.size))
  clear hx hy hB
  go_wp2_with fail
  refine (same16 x.1 x.2.1 x.1 x.2.1 x.2.2 w4 hxl rfl HX HX).mono ?_
  rintro e w5 ⟨rfl, m, rfl⟩
  go_wp2_with fail
  refine (sameWords17 y.1 y.2.1 y.2.1 y.2.2 _ hyl (HY.out.dr m)).mono ?_
  rintro e w5 ⟨rfl, m2, rfl⟩
  go_wp2
  go_ret
  exact ⟨rfl, below_dr HB.out _⟩
end Go.Proofs.Qxb6603130a
