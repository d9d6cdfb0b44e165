import Derived.Test.Qxb6603130aBits
namespace Go.Proofs.Qxb6603130a
open Go.RowKit

theorem below_dr {B : Nat} {a w : World} (h : Below B a w) (n : Nat) : Below B a (w.drewN n) := ⟨h.os, h.tape, h.output, h.size, h.block⟩

theorem Has.dr {w : World} {a : Option Addr} {xs : List Value} (h : Has w a xs) (n : Nat) : Has (w.drewN n) a xs := h

def SomeInt (w : World) (e : Ending) (w' : World) : Prop := ∃ c : Int, e = .returned (.int .i64 c) ∧ w' = w

set_option maxRecDepth 100000 in
set_option maxHeartbeats 400000 in
theorem pop46 (a : Option Addr) (c : Nat) (zs : List Int) (w : World) (hl : zs.length ≤ 1048576) (hk : Hid (Has w a (zs.map (.int .u64)))) :
    Calls Try.prog 46 #[.slice a zs.length c] w (SomeInt w) := by
  go_enter Try.func46, Try.ntmps46
  go_wp2
  go_loop [3, 4] (fun t i => ∃ (k : Nat) (m : Int), k ≤ zs.length ∧ i = .int .i64 k ∧ t = .int .i64 m) (fun _ i => zs.length - (intOf i).toNat)
  case atStart => exact ⟨0, 0, Nat.zero_le _, rfl, rfl⟩
  case round =>
    obtain ⟨k, m, hk1, rfl, rfl⟩ := hrel
    by_cases hlt : k < zs.length
    · obtain ⟨b, off, rfl, hb, hcell⟩ := hk.out.at (k := k) (x := .int .u64 (zs[k]'hlt)) (by simp [hlt])
      go_wp2
      go_loop [3, 5] (fun t i => ∃ (j : Nat) (m : Int), j ≤ 64 ∧ i = .int .i64 j ∧ t = .int .i64 m) (fun _ i => 64 - (intOf i).toNat)
      case atStart => exact ⟨0, _, Nat.zero_le _, rfl, rfl⟩
      case round =>
        obtain ⟨j, m, hj1, rfl, rfl⟩ := hrel
        by_cases hjt : j < 64
        · go_wp2
          all_goals exact ⟨⟨j + 1, _, by omega, by go_num, rfl⟩, by simp [intOf]; omega⟩
        · go_wp2
          exact ⟨⟨k + 1, _, by omega, by go_num, rfl⟩, by simp [intOf]; omega⟩
    · go_wp2
      go_ret
      exact ⟨m, rfl, rfl⟩

/-- In order, equal ones let. -/
def Rising (l : List Int) : Prop := ∀ i x y, l[i]? = some x → l[i + 1]? = some y → x ≤ y

/-- A guard that draws. -/
def GuardsD (w : World) (S : Prop) (e : Ending) (w' : World) : Prop := (e = .returned (.bool false) ∧ ∃ n, w' = w.drewN n) ∨ (e = .returned (.bool true) ∧ (∃ n, w' = w.drewN n) ∧ S)

set_option maxRecDepth 100000 in
set_option maxHeartbeats 400000 in
theorem rising43 (a : Option Addr) (c : Nat) (zs : List Int) (w : World) (hl : zs.length ≤ 1048576) (hk : Hid (Has w a (zs.map (.int .i64)))) :
    Calls Try.prog 43 #[.slice a zs.length c] w (GuardsD w (Rising zs)) := by
  go_enter Try.func43, Try.ntmps43
  go_wp2
  go_loopw [3] (fun i wr => ∃ (k n : Nat), (k ≤ zs.length ∨ k = 1) ∧ 1 ≤ k ∧ i = .int .i64 k ∧ wr = w.drewN n ∧ Hid (∀ j x y, j + 1 < k → zs[j]? = some x → zs[j + 1]? = some y → x ≤ y)) (fun i _ => zs.length - (intOf i).toNat)
  case atStart => exact ⟨1, 0, .inr rfl, Nat.le_refl _, rfl, rfl, fun j x y hj => by omega⟩
  case round =>
    obtain ⟨k, n, hk1, hk0, rfl, rfl, hup⟩ := hrel
    by_cases hlt : k < zs.length
    · obtain ⟨b, off, rfl, hb, hcell⟩ := hk.out.at (k := k) (x := .int .i64 (zs[k]'hlt)) (by simp [hlt])
      obtain ⟨b', off', hbb, _, hcell'⟩ := hk.out.at (k := k - 1) (x := .int .i64 (zs[k - 1]'(by omega))) (by simp [show k - 1 < zs.length by omega])
      cases hbb
      have hi0 : (1 : Int) ≤ (k : Int) := by omega
      have hi1 : (k : Int) < (zs.length : Int) := by omega
      go_wp2
      go_quiet (fail)
      go_wp2
      · go_ret
        exact .inl ⟨rfl, _, by simp; rfl⟩
      · have hle : zs[k - 1]'(by omega) ≤ zs[k] := by assumption
        refine ⟨⟨k + 1, n + nq, .inl (by omega), by omega, by go_num, by simp, ?_⟩, by simp [intOf]; omega⟩
        intro j x y hj hx hy
        by_cases e : j + 1 = k
        · subst e
          obtain ⟨_, rfl⟩ := List.getElem?_eq_some_iff.1 hx
          obtain ⟨_, rfl⟩ := List.getElem?_eq_some_iff.1 hy
          simpa using hle
        · exact hup.out j x y (by omega) hx hy
    · go_wp2
      go_ret
      refine .inr ⟨rfl, ⟨n, rfl⟩, ?_⟩
      intro j x y hx hy
      obtain ⟨h1, _⟩ := List.getElem?_eq_some_iff.1 hy
      exact hup.out j x y (by omega) hx hy

set_option maxRecDepth 100000 in
set_option maxHeartbeats 1000000 in
theorem list41 (a : Option Addr) (c : Nat) (ids : List Int) (a2 : Option Addr) (c2 : Nat) (zs : List Int) (w : World) (hl : ids.length ≤ 1048576) (hl2 : zs.length ≤ 1048576) (hz : Hid (Words zs)) (hk : Hid (Has w a (ids.map (.int .i64)))) (hk2 : Hid (Has w a2 (zs.map (.int .u64)))) :
    Calls Try.prog 41 #[.slice a ids.length c, .slice a2 zs.length c2] w (GuardsD w True) := by
  by_cases h0 : ids.length = 0
  · go_enter Try.func41, Try.ntmps41
    go_wp2
    go_ret
    exact .inr ⟨rfl, ⟨0, rfl⟩, trivial⟩
  have hne : ((ids.length : Int) == 0) = false := beq_eq_false_iff_ne.2 (by omega)
  go_enter Try.func41, Try.ntmps41
  go_wp2
  go_loopw [6] (fun i wr => ∃ (k n : Nat), k ≤ ids.length ∧ i = .int .i64 k ∧ wr = w.drewN n) (fun i _ => ids.length - (intOf i).toNat)
  case atStart => exact ⟨0, 0, Nat.zero_le _, rfl, rfl⟩
  case round =>
    obtain ⟨k, n, hk1, rfl, rfl⟩ := hrel
    by_cases hlt : k < ids.length
    · obtain ⟨b, off, rfl, hb, hcell⟩ := hk.out.at (k := k) (x := .int .i64 (ids[k]'hlt)) (by simp [hlt])
      by_cases hx0 : ids[k] < 0
      · go_wp2
        go_ret
        exact .inl ⟨rfl, n, rfl⟩
      by_cases hx1 : ids[k] < 64 * (zs.length : Int)
      rotate_left
      · go_wp2
        go_ret
        exact .inl ⟨rfl, n, rfl⟩
      obtain ⟨x, hx⟩ : ∃ x : Nat, ids[k] = (x : Int) := Int.eq_ofNat_of_zero_le (show 0 ≤ ids[k] by omega)
      rw [hx] at hcell hx0 hx1
      clear hx
      have hxl : x < 64 * zs.length := by omega
      have hi1 : (k : Int) < (ids.length : Int) := by omega
      have tail : Hid (∀ m, Calls Try.prog 18 #[.slice a2 zs.length c2, .int .i64 x] (w.drewN m) fun e w' => e = .returned (.bool (bitOf zs x)) ∧ w' = w.drewN m) := fun m => bit18 a2 c2 zs x (w.drewN m) hz hl2 hxl (Has.dr hk2.out m)
      by_cases hk0 : k = 0
      · subst hk0
        rw [Nat.add_zero] at hcell
        go_wp2
        go_quiet (fail)
        go_wp2_with fail
        refine (tail.out _).mono ?_
        rintro e w7 ⟨rfl, rfl⟩
        go_wp2
        · go_ret
          exact .inl ⟨rfl, _, rfl⟩
        · exact ⟨⟨1, _, by omega, by go_num, rfl⟩, by simp [intOf]; omega⟩
      · have hi0 : (0 : Int) < (k : Int) := by omega
        have hpos : 0 < k := by omega
        have hd : decide (0 < k) = true := by simpa using hpos
        obtain ⟨b', off', hbb, _, hcell'⟩ := hk.out.at (k := k - 1) (x := .int .i64 (ids[k - 1]'(by omega))) (by simp [show k - 1 < ids.length by omega])
        cases hbb
        go_wp2
        go_quiet (fail)
        go_wp2_with fail
        · go_ret
          exact .inl ⟨rfl, n + nq, by simp⟩
        · refine (tail.out _).mono ?_
          rintro e w7 ⟨rfl, rfl⟩
          go_wp2
          · go_ret
            exact .inl ⟨rfl, _, rfl⟩
          · exact ⟨⟨k + 1, _, by omega, by go_num, rfl⟩, by simp [intOf]; omega⟩
    · go_wp2_with fail
      refine (pop46 a2 c2 zs _ hl2 (Has.dr hk2.out n)).mono ?_
      rintro e w7 ⟨m, rfl, rfl⟩
      cases hm : ((m : Int) == ids.length)
      all_goals
        go_wp2
        go_ret
      · exact .inl ⟨rfl, _, rfl⟩
      · exact .inr ⟨rfl, ⟨_, rfl⟩, trivial⟩

/-- What the well-formedness guard of among gives. -/
def AmongOk (cs : List Int) (a2 : Option Addr) (zs ids : List Int) : Prop := (a2 ≠ none → ∀ x ∈ ids, 0 ≤ x ∧ x < 64 * (zs.length : Int)) ∧ (a2 = none → Rising cs ∧ Rising ids)

set_option maxRecDepth 100000 in
set_option maxHeartbeats 1000000 in
theorem wf22_set (a : Option Addr) (c : Nat) (cs : List Int) (x2 : Addr) (c2 : Nat) (zs : List Int) (a3 : Option Addr) (c3 : Nat) (ids : List Int) (w : World) (hl : cs.length ≤ 1048576) (hl2 : zs.length ≤ 1048576) (hl3 : ids.length ≤ 1048576) (hz : Hid (Words zs))
    (hk : Hid (Has w a (cs.map (.int .i64)))) (hk2 : Hid (Has w (some x2) (zs.map (.int .u64)))) (hk3 : Hid (Has w a3 (ids.map (.int .i64)))) :
    Calls Try.prog 22 #[.slice a cs.length c, .slice (some x2) zs.length c2, .slice a3 ids.length c3] w (GuardsD w (AmongOk cs (some x2) zs ids)) := by
  have qnil := fun (w : World) (a : Option Addr) (n c n' c' : Nat) => run_neq_slice_nil_any w 29 _ a n c n' c' Try.underlying29
  go_enter Try.func22, Try.ntmps22
  go_wp2
  go_loop [8] (fun i => ∃ (k : Nat), k ≤ ids.length ∧ i = .int .i64 k ∧ Hid (∀ j x, j < k → ids[j]? = some x → 0 ≤ x ∧ x < 64 * (zs.length : Int))) (fun i => ids.length - (intOf i).toNat)
  case atStart => exact ⟨0, Nat.zero_le _, rfl, fun j x hj => by omega⟩
  case round =>
    obtain ⟨k, hk1, rfl, hup⟩ := hrel
    by_cases hlt : k < ids.length
    · obtain ⟨x, hx⟩ : ∃ s, ids[k]? = some s := ⟨_, List.getElem?_eq_getElem hlt⟩
      obtain ⟨b, off, rfl, hb, hcell⟩ := hk3.out.at (k := k) (x := .int .i64 x) (by simp [hx])
      have HX := hid hx
      clear hx
      by_cases hx0 : x < 0
      · go_wp2
        go_ret
        exact .inl ⟨rfl, 0, rfl⟩
      by_cases hx1 : x < 64 * (zs.length : Int)
      rotate_left
      · go_wp2
        go_ret
        exact .inl ⟨rfl, 0, rfl⟩
      go_wp2
      exact ⟨⟨k + 1, by omega, by go_num, upto_succ hup.out HX.out ⟨by omega, hx1⟩⟩, by simp [intOf]; omega⟩
    · have hall := hid (upto_all (l := ids) (fun j s hj => hup.out j s (by omega)))
      go_wp2_with fail
      refine (list41 a c cs (some x2) c2 zs w hl hl2 hz hk hk2).mono ?_
      rintro e w7 (⟨rfl, n, rfl⟩ | ⟨rfl, ⟨n, rfl⟩, _⟩)
      · go_wp2
        go_ret
        exact .inl ⟨rfl, n, rfl⟩
      · go_wp2
        go_ret
        exact .inr ⟨rfl, ⟨n, rfl⟩, fun _ => hall.out, fun h => by cases h⟩

set_option maxRecDepth 100000 in
set_option maxHeartbeats 1000000 in
theorem wf22_list (a : Option Addr) (c : Nat) (cs : List Int) (a3 : Option Addr) (c3 : Nat) (ids : List Int) (w : World) (hl : cs.length ≤ 1048576) (hl3 : ids.length ≤ 1048576)
    (hk : Hid (Has w a (cs.map (.int .i64)))) (hk3 : Hid (Has w a3 (ids.map (.int .i64)))) :
    Calls Try.prog 22 #[.slice a cs.length c, .slice none 0 0, .slice a3 ids.length c3] w (GuardsD w (AmongOk cs none [] ids)) := by
  have qnil := fun (w : World) (a : Option Addr) (n c n' c' : Nat) => run_neq_slice_nil_any w 29 _ a n c n' c' Try.underlying29
  go_enter Try.func22, Try.ntmps22
  go_wp2_with fail
  refine (rising43 a c cs w hl hk).mono ?_
  rintro e w7 (⟨rfl, n, rfl⟩ | ⟨rfl, ⟨n, rfl⟩, h1⟩)
  · go_wp2
    go_ret
    exact .inl ⟨rfl, n, rfl⟩
  · have H1 := hid h1
    clear h1
    go_wp2_with fail
    refine (rising43 a3 c3 ids _ hl3 (Has.dr hk3.out n)).mono ?_
    rintro e w7 (⟨rfl, m, rfl⟩ | ⟨rfl, ⟨m, rfl⟩, h2⟩)
    · go_wp2
      go_ret
      exact .inl ⟨rfl, n + m, by simp⟩
    · have H2 := hid h2
      clear h2
      go_wp2
      go_ret
      exact .inr ⟨rfl, ⟨n + m, by simp⟩, fun h => absurd rfl h, fun _ => ⟨H1.out, H2.out⟩⟩

/-- Two slices of the same numbers. -/
theorem eqInts26 (a : Option Addr) (c : Nat) (a2 : Option Addr) (c2 : Nat) (bs : List Int) (w : World) (hl : bs.length ≤ 1048576) (hk : Hid (Has w a (bs.map (.int .i64)))) (hk2 : Hid (Has w a2 (bs.map (.int .i64)))) :
    Calls Try.prog 26 #[.slice a bs.length c, .slice a2 bs.length c2] w fun e w' => e = .returned (.bool true) ∧ ∃ n, w' = w.drewN n := by
  go_enter Try.func26, Try.ntmps26
  go_wp2
  go_loopw [5] (fun i wr => ∃ (k n : Nat), k ≤ bs.length ∧ i = .int .i64 k ∧ wr = w.drewN n) (fun i _ => bs.length - (intOf i).toNat)
  case atStart => exact ⟨0, 0, Nat.zero_le _, rfl, rfl⟩
  case round =>
    obtain ⟨k, n, hk1, rfl, rfl⟩ := hrel
    by_cases hlt : k < bs.length
    · obtain ⟨b, off, rfl, hb, hcell⟩ := hk.out.at (k := k) (x := .int .i64 (bs[k]'hlt)) (by simp [hlt])
      obtain ⟨b2, off2, rfl, hb2, hcell2⟩ := hk2.out.at (k := k) (x := .int .i64 (bs[k]'hlt)) (by simp [hlt])
      have hi0 : (0 : Int) ≤ (k : Int) := by omega
      have hi1 : (k : Int) < (bs.length : Int) := by omega
      go_wp2
      go_quiet (fail)
      go_wp2
      exact ⟨⟨k + 1, n + nq, by omega, by go_num, by simp⟩, by simp [intOf]; omega⟩
    · go_wp2
      go_ret
      exact ⟨rfl, n, rfl⟩

theorem bytes21 (a : Option Addr) (n c : Nat) (a2 : Option Addr) (n2 c2 : Nat) (a3 : Option Addr) (n3 c3 : Nat) (w : World) (h1 : n ≤ maxLen) (h2 : n2 ≤ maxLen) (h3 : n3 ≤ maxLen) :
    Calls Try.prog 21 #[.slice a n c, .slice a2 n2 c2, .slice a3 n3 c3] w (Guards w (n ≤ 1048576 ∧ n2 ≤ 1048576 ∧ n3 ≤ 1048576)) := by
  unfold maxLen at h1 h2 h3
  go_enter Try.func21, Try.ntmps21
  go_wp2
  all_goals try (go_ret; exact .inl ⟨rfl, rfl⟩)
  go_ret
  exact .inr ⟨rfl, rfl, by omega, by omega, by omega⟩
end Go.Proofs.Qxb6603130a
