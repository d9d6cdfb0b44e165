import Derived.Test.Qxb6603130aGuards
namespace Go.Proofs.Qxb6603130a
open Go.RowKit

theorem Rising.le {l : List Int} (h : Rising l) : ∀ (d i : Nat) (x y : Int), l[i]? = some x → l[i + d]? = some y → x ≤ y
  | 0, i, x, y, hx, hy => by rw [Nat.add_zero, hx] at hy; cases hy; exact Int.le_refl _
  | d + 1, i, x, y, hx, hy => by
    obtain ⟨hlt, _⟩ := List.getElem?_eq_some_iff.1 hy
    have hz := List.getElem?_eq_getElem (show i + d < l.length by omega)
    exact Int.le_trans (h.le d i x _ hx hz) (h (i + d) _ y hz hy)

theorem Rising.upto {l : List Int} (h : Rising l) {i j : Nat} {x y : Int} (hij : i ≤ j) (hx : l[i]? = some x) (hy : l[j]? = some y) : x ≤ y :=
  h.le (j - i) i x y hx (by rw [show i + (j - i) = j by omega]; exact hy)

/-- The first place whose number is not below x. -/
structure IsLb (l : List Int) (x : Int) (i : Nat) : Prop where
  le : i ≤ l.length
  lo : ∀ j y, j < i → l[j]? = some y → y < x
  hi : ∀ j y, i ≤ j → l[j]? = some y → x ≤ y

def Found (l : List Int) (x : Int) (w : World) (e : Ending) (w' : World) : Prop := ∃ i, IsLb l x i ∧ e = .returned (.tuple #[.int .i64 (i : Nat), .bool (decide (l[i]? = some x))]) ∧ w' = w

set_option maxRecDepth 100000 in
set_option maxHeartbeats 400000 in
theorem search50 (a : Option Addr) (c : Nat) (l : List Int) (x : Int) (w : World) (hl : l.length ≤ 1048576) (hr : Hid (Rising l)) (hk : Hid (Has w a (l.map (.int .i64)))) :
    Calls Try.prog 50 #[.slice a l.length c, .int .i64 x] w (Found l x w) := by
  go_enter Try.func50, Try.ntmps50
  go_wp2
  go_loop [7, 8] (fun lo hi => ∃ (i j : Nat), i ≤ j ∧ j ≤ l.length ∧ lo = .int .i64 i ∧ hi = .int .i64 j ∧ Hid (∀ q y, q < i → l[q]? = some y → y < x) ∧ Hid (∀ q y, j ≤ q → l[q]? = some y → x ≤ y)) (fun lo hi => (intOf hi).toNat - (intOf lo).toNat)
  case atStart => exact ⟨0, l.length, Nat.zero_le _, Nat.le_refl _, rfl, rfl, fun q y hq => by omega, fun q y hq hy => by have := (List.getElem?_eq_some_iff.1 hy).1; omega⟩
  case round =>
    obtain ⟨i, j, hij, hj, rfl, rfl, hlo, hhi⟩ := hrel
    by_cases hlt : i < j
    · have hm : (i + j) / 2 < l.length := by omega
      obtain ⟨b, off, rfl, hb, hcell⟩ := hk.out.at (k := (i + j) / 2) (x := .int .i64 (l[(i + j) / 2]'hm)) (by simp [hm])
      have hel := List.getElem?_eq_getElem hm
      have HE := hid hel
      clear hel
      go_wp2
      · have hq : l[(i + j) / 2] < x := by assumption
        refine ⟨⟨(i + j) / 2 + 1, j, by omega, hj, by go_num, rfl, fun q y hq1 hy => ?_, hhi⟩, by simp only [intOf]; omega⟩
        have := hr.out.upto (show q ≤ (i + j) / 2 by omega) hy HE.out
        omega
      · have hq : ¬ l[(i + j) / 2] < x := by assumption
        refine ⟨⟨i, (i + j) / 2, by omega, by omega, rfl, by go_num, hlo, fun q y hq1 hy => ?_⟩, by simp only [intOf]; omega⟩
        have := hr.out.upto hq1 HE.out hy
        omega
    · have e : i = j := by omega
      subst e
      have hfin := hid (show IsLb l x i from ⟨hj, hlo.out, hhi.out⟩)
      by_cases hi : i < l.length
      · obtain ⟨b, off, rfl, hb, hcell⟩ := hk.out.at (k := i) (x := .int .i64 (l[i]'hi)) (by simp [hi])
        by_cases he : l[i] = x
        · have hd := hid (show decide (l[i]? = some x) = true by simp [hi, he])
          have hbq : (l[i] == x) = true := beq_iff_eq.2 he
          clear he
          go_wp2
          go_ret2
          refine ⟨i, hfin.out, ?_, rfl⟩
          rw [hd.out]
          rfl
        · have hd := hid (show decide (l[i]? = some x) = false by simp [hi, he])
          have hbq : (l[i] == x) = false := beq_eq_false_iff_ne.2 he
          clear he
          go_wp2
          go_ret2
          refine ⟨i, hfin.out, ?_, rfl⟩
          rw [hd.out]
          rfl
      · have hd := hid (show decide (l[i]? = some x) = false by rw [List.getElem?_eq_none (by omega)]; rfl)
        have hdd : decide ((i : Int) < (l.length : Int)) = false := by simp; omega
        go_wp2
        go_ret2
        refine ⟨i, hfin.out, ?_, rfl⟩
        rw [hd.out]
        rfl
end Go.Proofs.Qxb6603130a
