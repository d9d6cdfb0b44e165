import Derived.Test.Qxb6603130aZZUnion
import Derived.Test.Qxb6603130aAlike
namespace Go.Proofs.Qxb6603130a
open Go.RowKit

/-- The law's two lists of slices, as they came in. -/
structure UArgs (w : World) (a0 : Option Addr) (c0 : Nat) (Is : List Sl) (a1 : Option Addr) (c1 : Nat) (Ss : List Sl) : Prop where
  r0 : Has w a0 (Is.map sI)
  r1 : Has w a1 (Ss.map sI)
  hI : ∀ x ∈ Is, Has w x.1 (x.2.2.map (.int .i64))
  hS : ∀ x ∈ Ss, Has w x.1 (x.2.2.map (.int .u64))
  nI : ∀ x ∈ Is, x.1 = none → x.2.1 = 0 ∧ x.2.2 = []
  nS : ∀ x ∈ Ss, x.1 = none → x.2.1 = 0 ∧ x.2.2 = []
  n0 : a0 = none → c0 = 0 ∧ Is = []
  n1 : a1 = none → c1 = 0 ∧ Ss = []
  words : ∀ x ∈ Ss, Words x.2.2
  l0 : Is.length ≤ maxLen
  l1 : Ss.length ≤ maxLen
  lI : ∀ x ∈ Is, x.2.2.length ≤ maxLen
  lS : ∀ x ∈ Ss, x.2.2.length ≤ maxLen

set_option maxHeartbeats 1000000 in
set_option maxRecDepth 100000 in
theorem bytes10 (a0 : Option Addr) (c0 : Nat) (Is : List Sl) (a1 : Option Addr) (c1 : Nat) (Ss : List Sl) (v : Value) (w : World) (hA : Hid (UArgs w a0 c0 Is a1 c1 Ss)) :
    Calls Try.prog 10 #[.slice a0 Is.length c0, .slice a1 Ss.length c1, v] w (Guards w True) := by
  have h1 := hA.out.l0
  have h2 := hA.out.l1
  unfold maxLen at h1 h2
  go_enter Try.func10, Try.ntmps10
  go_wp2
  all_goals try (go_ret; exact .inl ⟨rfl, rfl⟩)
  go_loop [7, 8] (fun z i => ∃ (k : Nat) (m : Int), k ≤ Is.length ∧ 0 ≤ m ∧ m ≤ 1048576 ∧ i = .int .i64 k ∧ z = .int .i64 m) (fun _ i => Is.length - (intOf i).toNat)
  case atStart => exact ⟨0, _, Nat.zero_le _, by omega, by omega, rfl, rfl⟩
  case round =>
    obtain ⟨k, m, hk1, hm0, hm1, rfl, rfl⟩ := hrel
    by_cases hlt : k < Is.length
    · obtain ⟨⟨xa, xc, xs⟩, hs⟩ : ∃ s, Is[k]? = some s := ⟨_, List.getElem?_eq_getElem hlt⟩
      obtain ⟨b, off, rfl, hb, hcell⟩ := hA.out.r0.at (k := k) (x := .slice xa xs.length xc) (by simp [hs, sI])
      have hsm : xs.length ≤ maxLen := hA.out.lI _ (List.mem_of_getElem? hs)
      unfold maxLen at hsm
      clear hs
      go_wp2
      all_goals try (go_ret; exact .inl ⟨rfl, rfl⟩)
      exact ⟨⟨k + 1, _, by omega, by omega, by assumption, by go_num, rfl⟩, by simp [intOf]; omega⟩
    · go_wp2
      all_goals try (go_ret; exact .inl ⟨rfl, rfl⟩)
      go_loop [7, 9] (fun z i => ∃ (k : Nat) (m : Int), k ≤ Ss.length ∧ 0 ≤ m ∧ m ≤ 1048576 ∧ i = .int .i64 k ∧ z = .int .i64 m) (fun _ i => Ss.length - (intOf i).toNat)
      case atStart => exact ⟨0, _, Nat.zero_le _, by omega, by omega, rfl, rfl⟩
      case round =>
        clear hm0 hm1
        obtain ⟨k, m, hk1, hm0, hm1, rfl, rfl⟩ := hrel
        by_cases hlt : k < Ss.length
        · obtain ⟨⟨xa, xc, xs⟩, hs⟩ : ∃ s, Ss[k]? = some s := ⟨_, List.getElem?_eq_getElem hlt⟩
          obtain ⟨b, off, rfl, hb, hcell⟩ := hA.out.r1.at (k := k) (x := .slice xa xs.length xc) (by simp [hs, sI])
          have hsm : xs.length ≤ maxLen := hA.out.lS _ (List.mem_of_getElem? hs)
          unfold maxLen at hsm
          clear hs
          go_wp2
          all_goals try (go_ret; exact .inl ⟨rfl, rfl⟩)
          exact ⟨⟨k + 1, _, by omega, by omega, by assumption, by go_num, rfl⟩, by simp [intOf]; omega⟩
        · go_wp2
          all_goals try (go_ret; exact .inl ⟨rfl, rfl⟩)
          go_ret
          exact .inr ⟨rfl, rfl, trivial⟩

theorem total_all (Is : List Sl) {k : Nat} (h : Is.length ≤ k) : total (Is.take k) = total Is := by rw [List.take_of_length_le h]

set_option maxHeartbeats 1000000 in
set_option maxRecDepth 100000 in
theorem size11 (a0 : Option Addr) (c0 : Nat) (Is : List Sl) (a1 : Option Addr) (c1 : Nat) (Ss : List Sl) (w : World) (hA : Hid (UArgs w a0 c0 Is a1 c1 Ss)) :
    Calls Try.prog 11 #[.slice a0 Is.length c0, .slice a1 Ss.length c1] w (Guards w (Is.length ≤ 131072 ∧ Ss.length ≤ 131072 ∧ total Is ≤ 131072 ∧ total Ss ≤ 131072)) := by
  have h1 := hA.out.l0
  have h2 := hA.out.l1
  unfold maxLen at h1 h2
  go_enter Try.func11, Try.ntmps11
  go_wp2
  all_goals try (go_ret; exact .inl ⟨rfl, rfl⟩)
  go_loop [5, 6] (fun z i => ∃ (k : Nat) (m : Int), k ≤ Is.length ∧ m ≤ 1048576 ∧ i = .int .i64 k ∧ z = .int .i64 m ∧ 8 * (total (Is.take k) : Int) ≤ m) (fun _ i => Is.length - (intOf i).toNat)
  case atStart => exact ⟨0, _, Nat.zero_le _, by omega, rfl, rfl, by simp [total]; omega⟩
  case round =>
    obtain ⟨k, m, hk1, hm1, rfl, rfl, ht⟩ := hrel
    by_cases hlt : k < Is.length
    · obtain ⟨⟨xa, xc, xs⟩, hs⟩ : ∃ s, Is[k]? = some s := ⟨_, List.getElem?_eq_getElem hlt⟩
      obtain ⟨b, off, rfl, hb, hcell⟩ := hA.out.r0.at (k := k) (x := .slice xa xs.length xc) (by simp [hs, sI])
      have hsm : xs.length ≤ maxLen := hA.out.lI _ (List.mem_of_getElem? hs)
      unfold maxLen at hsm
      have ht1 := total_take hs
      simp only at ht1
      clear hs
      go_wp2
      all_goals try (go_ret; exact .inl ⟨rfl, rfl⟩)
      exact ⟨⟨k + 1, _, by omega, by assumption, by go_num, rfl, by omega⟩, by simp [intOf]; omega⟩
    · have hI := total_all Is (k := k) (by omega)
      go_wp2
      all_goals try (go_ret; exact .inl ⟨rfl, rfl⟩)
      go_loop [5, 7] (fun z i => ∃ (k : Nat) (m : Int), k ≤ Ss.length ∧ m ≤ 1048576 ∧ i = .int .i64 k ∧ z = .int .i64 m ∧ 8 * (total (Ss.take k) : Int) ≤ m) (fun _ i => Ss.length - (intOf i).toNat)
      case atStart => exact ⟨0, _, Nat.zero_le _, by omega, rfl, rfl, by simp [total]; omega⟩
      case round =>
        have htI : 8 * (total Is : Int) ≤ 1048576 := by omega
        clear hm1 ht hI
        obtain ⟨k, m, hk1, hm1, rfl, rfl, ht⟩ := hrel
        by_cases hlt : k < Ss.length
        · obtain ⟨⟨xa, xc, xs⟩, hs⟩ : ∃ s, Ss[k]? = some s := ⟨_, List.getElem?_eq_getElem hlt⟩
          obtain ⟨b, off, rfl, hb, hcell⟩ := hA.out.r1.at (k := k) (x := .slice xa xs.length xc) (by simp [hs, sI])
          have hsm : xs.length ≤ maxLen := hA.out.lS _ (List.mem_of_getElem? hs)
          unfold maxLen at hsm
          have ht1 := total_take hs
          simp only at ht1
          clear hs
          go_wp2
          all_goals try (go_ret; exact .inl ⟨rfl, rfl⟩)
          exact ⟨⟨k + 1, _, by omega, by assumption, by go_num, rfl, by omega⟩, by simp [intOf]; omega⟩
        · have hS := total_all Ss (k := k) (by omega)
          go_wp2
          all_goals try (go_ret; exact .inl ⟨rfl, rfl⟩)
          go_ret
          exact .inr ⟨rfl, rfl, by omega, by omega, by omega, by omega⟩

/-- What the guard gives of one set. -/
def SetOk (n : Nat) (x y : Sl) : Prop :=
  (y.1 = none → ∀ v ∈ x.2.2, 0 ≤ v ∧ v < (n : Int)) ∧ (y.1 ≠ none → y.2.2.length = (n + 63) / 64 ∧ ∀ i, n ≤ i → i < 64 * ((n + 63) / 64) → bitOf y.2.2 i = false)

/-- What the guard gives. -/
def UnionOk (Is Ss : List Sl) (n : Nat) : Prop := ∀ (k : Nat) (x y : Sl), Is[k]? = some x → Ss[k]? = some y → SetOk n x y

theorem unionOk_step {Is Ss : List Sl} {n k : Nat} {x y : Sl} (h : ∀ (j : Nat) (x y : Sl), j < k → Is[j]? = some x → Ss[j]? = some y → SetOk n x y) (hx : Is[k]? = some x) (hy : Ss[k]? = some y) (hs : SetOk n x y) :
    ∀ (j : Nat) (x y : Sl), j < k + 1 → Is[j]? = some x → Ss[j]? = some y → SetOk n x y := by
  intro j x' y' hj hx' hy'
  by_cases e : j = k
  · subst e
    rw [hx] at hx'
    rw [hy] at hy'
    cases hx'
    cases hy'
    exact hs
  · exact h j x' y' (by omega) hx' hy'

set_option maxHeartbeats 2000000 in
set_option maxRecDepth 100000 in
theorem wf12 (a0 : Option Addr) (c0 : Nat) (Is : List Sl) (a1 : Option Addr) (c1 : Nat) (Ss : List Sl) (n : Nat) (w : World) (hA : Hid (UArgs w a0 c0 Is a1 c1 Ss)) (hn : n ≤ 65536) (hlen : Hid (Is.length = Ss.length)) (hm : Is.length ≤ 131072) (hI : total Is ≤ 131072) (hS : total Ss ≤ 131072) :
    Calls Try.prog 12 #[.slice a0 Is.length c0, .slice a1 Is.length c1, .int .i64 n] w (GuardsD w (UnionOk Is Ss n)) := by
  have qnil := fun (w : World) (a : Option Addr) (n c n' c' : Nat) => run_neq_slice_nil_any w 29 _ a n c n' c' Try.underlying29
  go_enter Try.func12, Try.ntmps12
  go_wp2
  go_loopw [8] (fun i wr => ∃ (k q : Nat), k ≤ Is.length ∧ i = .int .i64 k ∧ wr = w.drewN q ∧ Hid (∀ (j : Nat) (x y : Sl), j < k → Is[j]? = some x → Ss[j]? = some y → SetOk n x y)) (fun i _ => Is.length - (intOf i).toNat)
  case atStart => exact ⟨0, 0, Nat.zero_le _, rfl, rfl, fun j x y hj => by omega⟩
  case round =>
    obtain ⟨k, q, hk1, rfl, rfl, hup⟩ := hrel
    by_cases hlt : k < Is.length
    · obtain ⟨⟨xa, xc, xs⟩, hx⟩ : ∃ s, Is[k]? = some s := ⟨_, List.getElem?_eq_getElem hlt⟩
      obtain ⟨⟨ya, yc, ys⟩, hy⟩ : ∃ s, Ss[k]? = some s := ⟨_, List.getElem?_eq_getElem (by rw [← hlen.out]; exact hlt)⟩
      obtain ⟨b, off, rfl, hb, hcell⟩ := hA.out.r0.at (k := k) (x := .slice xa xs.length xc) (by simp [hx, sI])
      obtain ⟨b1, off1, rfl, hb1, hcell1⟩ := hA.out.r1.at (k := k) (x := .slice ya ys.length yc) (by simp [hy, sI])
      have hxm := List.mem_of_getElem? hx
      have hym := List.mem_of_getElem? hy
      have hxl : xs.length ≤ 131072 := Nat.le_trans (total_mem hxm) hI
      have hyl : ys.length ≤ 131072 := Nat.le_trans (total_mem hym) hS
      have hxh := hid (hA.out.hI _ hxm)
      have hyh := hid (hA.out.hS _ hym)
      have hyw := hid (hA.out.words _ hym)
      have hstep := hid (unionOk_step hup.out hx hy)
      clear hx hy hxm hym
      cases ya with
      | none =>
        go_wp2
        go_loop [12] (fun i => ∃ (j : Nat), j ≤ xs.length ∧ i = .int .i64 j ∧ Hid (∀ (l : Nat) v, l < j → xs[l]? = some v → 0 ≤ v ∧ v < (n : Int))) (fun i => xs.length - (intOf i).toNat)
        case atStart => exact ⟨0, Nat.zero_le _, rfl, fun j y hj => by omega⟩
        case round =>
          obtain ⟨j, hj1, rfl, hrg⟩ := hrel
          by_cases hjt : j < xs.length
          · obtain ⟨x, hx⟩ : ∃ x, xs[j]? = some x := ⟨_, List.getElem?_eq_getElem hjt⟩
            obtain ⟨b2, off2, rfl, hb2, hcell2⟩ := hxh.out.at (k := j) (x := .int .i64 x) (by simp [hx])
            have HX := hid hx
            clear hx
            go_wp2
            all_goals try (go_ret; exact .inl ⟨rfl, q, rfl⟩)
            exact ⟨⟨j + 1, by omega, by go_num, range_step hrg.out HX.out (by omega) (by omega)⟩, by simp [intOf]; omega⟩
          · have R := hid (hstep.out ⟨fun _ => range_all (fun l y hl => hrg.out l y (by have : l < xs.length := hl; omega)), fun h => absurd rfl h⟩)
            go_wp2
            exact ⟨⟨k + 1, q, by omega, by go_num, rfl, R⟩, by simp [intOf]; omega⟩
      | some y =>
        by_cases hw : ys.length = (n + 63) / 64
        case neg =>
          have hw' : ((ys.length : Int) == ((n : Int) + 63) / 64) = false := beq_eq_false_iff_ne.2 (by omega)
          go_wp2
          go_ret
          exact .inl ⟨rfl, q, rfl⟩
        have hw' : ((ys.length : Int) == ((n : Int) + 63) / 64) = true := by rw [beq_iff_eq]; omega
        have HW := hid hw
        clear hw
        go_wp2
        go_loop [11] (fun i => ∃ (j : Nat), n ≤ j ∧ j ≤ 64 * ((n + 63) / 64) ∧ i = .int .i64 j ∧ Hid (∀ i, n ≤ i → i < j → bitOf ys i = false)) (fun i => 64 * ((n + 63) / 64) - (intOf i).toNat)
        case atStart => exact ⟨n, Nat.le_refl _, by omega, rfl, fun i h1 h2 => by omega⟩
        case round =>
          obtain ⟨j, hj0, hj1, rfl, hz⟩ := hrel
          by_cases hjt : j < 64 * ((n + 63) / 64)
          · have hji : (j : Int) < 64 * (((n : Int) + 63) / 64) := by omega
            go_wp2_with fail
            refine (bit18 (some y) yc ys j _ hyw (by omega) (by have := HW.out; omega) (hyh.out.dr q)).mono ?_
            rintro e w7 ⟨rfl, rfl⟩
            cases hbit : bitOf ys j
            · have hst := hid (show ∀ i, n ≤ i → i < j + 1 → bitOf ys i = false from fun i h1 h2 => by
                by_cases e : i = j
                · subst e; exact hbit
                · exact hz.out i h1 (by omega))
              go_wp2
              exact ⟨⟨j + 1, by omega, by omega, by go_num, hst⟩, by simp [intOf]; omega⟩
            · go_wp2
              go_ret
              exact .inl ⟨rfl, q, rfl⟩
          · have hji : ¬ (j : Int) < 64 * (((n : Int) + 63) / 64) := by omega
            have R := hid (hstep.out ⟨(fun h => by cases h), fun _ => ⟨HW.out, fun i h1 h2 => hz.out i h1 (by omega)⟩⟩)
            go_wp2_with fail
            refine (list41 xa xc xs (some y) yc ys _ (by omega) (by omega) hyw (hxh.out.dr q) (hyh.out.dr q)).mono ?_
            rintro e w7 (⟨rfl, m, rfl⟩ | ⟨rfl, ⟨m, rfl⟩, -⟩)
            · go_wp2
              go_ret
              exact .inl ⟨rfl, q + m, by simp⟩
            · go_wp2
              exact ⟨⟨k + 1, q + m, by omega, by go_num, by simp, R⟩, by simp [intOf]; omega⟩
    · go_wp2
      go_ret
      exact .inr ⟨rfl, ⟨q, rfl⟩, fun j x y hx hy => hup.out j x y (by have := (List.getElem?_eq_some_iff.1 hx).1; omega) hx hy⟩
end Go.Proofs.Qxb6603130a
