import Derived.Test.Qxb6603130aLaw5
import Derived.BigQuiet
namespace Go.Proofs.Qxb6603130a
open Go.RowKit

theorem bytes27 (a : Option Addr) (n c : Nat) (a2 : Option Addr) (n2 c2 : Nat) (v : Value) (w : World) (h1 : n ≤ maxLen) (h2 : n2 ≤ maxLen) :
    Calls Try.prog 27 #[.slice a n c, .slice a2 n2 c2, v] w (Guards w (n ≤ 1048576 ∧ n2 ≤ 1048576)) := by
  unfold maxLen at h1 h2
  go_enter Try.func27, Try.ntmps27
  go_wp2
  all_goals try (go_ret; exact .inl ⟨rfl, rfl⟩)
  go_ret
  exact .inr ⟨rfl, rfl, by omega, by omega⟩

/-- Two slices of the same numbers, nil alike. -/
theorem same16 (a : Option Addr) (c : Nat) (a2 : Option Addr) (c2 : Nat) (bs : List Int) (w : World) (hl : bs.length ≤ 1048576) (hnn : a.isNone = a2.isNone) (hk : Hid (Has w a (bs.map (.int .i64)))) (hk2 : Hid (Has w a2 (bs.map (.int .i64)))) :
    Calls Try.prog 16 #[.slice a bs.length c, .slice a2 bs.length c2] w fun e w' => e = .returned (.bool true) ∧ ∃ n, w' = w.drewN n := by
  have qnil := fun (w : World) (a : Option Addr) (n c n' c' : Nat) => Lib.run_eql_slice_nil w 28 _ a n c n' c' Try.underlying28
  go_enter Try.func16, Try.ntmps16
  go_wp2_with fail
  refine (eqInts26 a c a2 c2 bs w hl hk hk2).mono ?_
  rintro e w' ⟨rfl, n, rfl⟩
  go_wp2
  go_ret
  exact ⟨rfl, n, rfl⟩

/-- What the guard of the law gives. -/
structure AlikeOk (cs ids : List Int) (n : Int) : Prop where
  r0 : Rising cs
  r1 : Rising ids
  i0 : ∀ x ∈ cs, 0 ≤ x ∧ x < n
  i1 : ∀ x ∈ ids, 0 ≤ x ∧ x < n

theorem range_step {zs : List Int} {k : Nat} {n x : Int} (h : ∀ (j : Nat) y, j < k → zs[j]? = some y → 0 ≤ y ∧ y < n) (hx : zs[k]? = some x) (h0 : 0 ≤ x) (h1 : x < n) : ∀ (j : Nat) y, j < k + 1 → zs[j]? = some y → 0 ≤ y ∧ y < n := by
  intro j y hj hy
  by_cases e : j = k
  · subst e; rw [hx] at hy; cases hy; exact ⟨h0, h1⟩
  · exact h j y (by omega) hy

theorem range_all {zs : List Int} {n : Int} (h : ∀ (j : Nat) y, j < zs.length → zs[j]? = some y → 0 ≤ y ∧ y < n) : ∀ x ∈ zs, 0 ≤ x ∧ x < n := by
  intro x hx
  obtain ⟨j, hj, e⟩ := List.getElem_of_mem hx
  exact h j x hj (by rw [List.getElem?_eq_getElem hj, e])

set_option maxRecDepth 100000 in
set_option maxHeartbeats 2000000 in
theorem wf28 (a : Option Addr) (c : Nat) (cs : List Int) (a3 : Option Addr) (c3 : Nat) (ids : List Int) (n : Nat) (w : World) (hl : cs.length ≤ 1048576) (hl3 : ids.length ≤ 1048576) (_hn : n ≤ 65536)
    (hk : Hid (Has w a (cs.map (.int .i64)))) (hk3 : Hid (Has w a3 (ids.map (.int .i64)))) :
    Calls Try.prog 28 #[.slice a cs.length c, .slice a3 ids.length c3, .int .i64 n] w (GuardsD w (AlikeOk cs ids n)) := by
  go_enter Try.func28, Try.ntmps28
  go_wp2_with fail
  refine (rising43 a c cs w hl hk).mono ?_
  rintro e w7 (⟨rfl, q, rfl⟩ | ⟨rfl, ⟨q, rfl⟩, h1⟩)
  · go_wp2
    go_ret
    exact .inl ⟨rfl, q, rfl⟩
  have H1 := hid h1
  clear h1
  go_wp2_with fail
  refine (rising43 a3 c3 ids _ hl3 (Has.dr hk3.out q)).mono ?_
  rintro e w7 (⟨rfl, m, rfl⟩ | ⟨rfl, ⟨m, rfl⟩, h2⟩)
  · go_wp2
    go_ret
    exact .inl ⟨rfl, q + m, by simp⟩
  have H2 := hid h2
  clear h2
  go_wp2
  go_loop [7] (fun i => ∃ (k : Nat), k ≤ cs.length ∧ i = .int .i64 k ∧ Hid (∀ (j : Nat) y, j < k → cs[j]? = some y → 0 ≤ y ∧ y < (n : Int))) (fun i => cs.length - (intOf i).toNat)
  case atStart => exact ⟨0, Nat.zero_le _, rfl, fun j y hj => by omega⟩
  case round =>
    obtain ⟨k, hk1, rfl, hrg⟩ := hrel
    by_cases hlt : k < cs.length
    · obtain ⟨x, hx⟩ : ∃ x, cs[k]? = some x := ⟨_, List.getElem?_eq_getElem hlt⟩
      obtain ⟨b, off, rfl, hb, hcell⟩ := hk.out.at (k := k) (x := .int .i64 x) (by simp [hx])
      have HX := hid hx
      clear hx
      go_wp2
      all_goals try (go_ret; exact .inl ⟨rfl, q + m, by simp⟩)
      exact ⟨⟨k + 1, by omega, by go_num, range_step hrg.out HX.out (by omega) (by omega)⟩, by simp [intOf]; omega⟩
    · obtain rfl : k = cs.length := by omega
      have R1 := hid (range_all hrg.out)
      go_wp2
      go_loop [8] (fun i => ∃ (k : Nat), k ≤ ids.length ∧ i = .int .i64 k ∧ Hid (∀ (j : Nat) y, j < k → ids[j]? = some y → 0 ≤ y ∧ y < (n : Int))) (fun i => ids.length - (intOf i).toNat)
      case atStart => exact ⟨0, Nat.zero_le _, rfl, fun j y hj => by omega⟩
      case round =>
        clear hrg
        obtain ⟨k, hk1, rfl, hrg⟩ := hrel
        by_cases hlt : k < ids.length
        · obtain ⟨x, hx⟩ : ∃ x, ids[k]? = some x := ⟨_, List.getElem?_eq_getElem hlt⟩
          obtain ⟨b, off, rfl, hb, hcell⟩ := hk3.out.at (k := k) (x := .int .i64 x) (by simp [hx])
          have HX := hid hx
          clear hx
          go_wp2
          all_goals try (go_ret; exact .inl ⟨rfl, q + m, by simp⟩)
          exact ⟨⟨k + 1, by omega, by go_num, range_step hrg.out HX.out (by omega) (by omega)⟩, by simp [intOf]; omega⟩
        · obtain rfl : k = ids.length := by omega
          have R2 := hid (range_all hrg.out)
          go_wp2
          go_ret
          exact .inr ⟨rfl, ⟨q + m, by simp⟩, H1.out, H2.out, R1.out, R2.out⟩
end Go.Proofs.Qxb6603130a
