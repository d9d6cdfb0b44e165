import Derived.Test.Qxb6603221aNum
namespace Go.Proofs.Qxb6603221a
open Go.RowKit

set_option maxRecDepth 100000 in
set_option maxHeartbeats 4000000 in
theorem step23 (s b : Int) (hs : 0 ≤ s ∧ s ≤ 8) (w : World) : Calls Try.prog 23 #[.int .i64 s, .int .u8 b] w fun e w' => e = .returned (.int .i64 (step s b)) ∧ w' = w := by
  have hc : s = 0 ∨ s = 1 ∨ s = 2 ∨ s = 3 ∨ s = 4 ∨ s = 5 ∨ s = 6 ∨ s = 7 ∨ s = 8 := by omega
  clear hs
  go_enter Try.func23, Try.ntmps23
  rcases hc with rfl | rfl | rfl | rfl | rfl | rfl | rfl | rfl | rfl
  all_goals
    go_wp2_with (first | (go_at_call 30; refine (dig30 b _).mono ?_; rintro e w' ⟨rfl, rfl⟩) | (go_at_call 31; refine (exp31 b _).mono ?_; rintro e w' ⟨rfl, rfl⟩) | fail)
    all_goals (go_ret; refine ⟨?_, rfl⟩; (try simp only [beq_iff_eq, beq_eq_false_iff_ne, ne_eq] at *); first | (simp [step, *]; done) | (simp [step, *]; rfl) | (simp [step, *]; intros; exfalso; omega))

def acc (s : Int) : Bool := s = 2 || s = 3 || s = 5 || s = 8

set_option maxRecDepth 100000 in
set_option maxHeartbeats 1000000 in
theorem acc24 (s : Int) (hs : 0 ≤ s ∧ s ≤ 8) (w : World) : Calls Try.prog 24 #[.int .i64 s] w fun e w' => e = .returned (.bool (acc s)) ∧ w' = w := by
  have hc : s = 0 ∨ s = 1 ∨ s = 2 ∨ s = 3 ∨ s = 4 ∨ s = 5 ∨ s = 6 ∨ s = 7 ∨ s = 8 := by omega
  clear hs
  go_enter Try.func24, Try.ntmps24
  rcases hc with rfl | rfl | rfl | rfl | rfl | rfl | rfl | rfl | rfl
  all_goals (go_wp2; go_ret; exact ⟨rfl, rfl⟩)

/-- The automaton on a list: its last state, how many bytes it took. -/
def run : Int → List UInt8 → Int × Nat
  | s, [] => (s, 0)
  | s, b :: l => if step s b.toNat = -1 then (s, 0) else ((run (step s b.toNat) l).1, (run (step s b.toNat) l).2 + 1)

theorem step_range (s b : Int) (h : step s b ≠ -1) : 0 ≤ step s b ∧ step s b ≤ 8 := by
  obtain ⟨x, hx⟩ : ∃ x, x = step s b := ⟨_, rfl⟩
  rw [← hx] at h ⊢
  unfold step at hx
  repeat' split at hx
  all_goals omega

theorem run_range : ∀ (l : List UInt8) (s : Int), 0 ≤ s ∧ s ≤ 8 → 0 ≤ (run s l).1 ∧ (run s l).1 ≤ 8
  | [], s, h => by simpa [run] using h
  | b :: l, s, h => by
    unfold run
    by_cases e : step s b.toNat = -1
    · rw [if_pos e]; exact h
    · rw [if_neg e]; exact run_range l _ (step_range _ _ e)

/-- modelNumber. -/
def model (s : ByteArray) (i : Nat) : Nat × Int :=
  if acc (run 0 (s.data.toList.drop i)).1 then (i + (run 0 (s.data.toList.drop i)).2, 0)
  else if i + (run 0 (s.data.toList.drop i)).2 = s.size then (0, 1) else (0, 2)

theorem run_le : ∀ (l : List UInt8) (s : Int), (run s l).2 ≤ l.length
  | [], s => by simp [run]
  | b :: l, s => by
    unfold run
    have := run_le l (step s b.toNat)
    split <;> simp <;> omega

theorem run_stop {s : ByteArray} {k : Nat} {st : Int} (h : k < s.size) (hs : step st s[k].toNat = -1) : run st (s.data.toList.drop k) = (st, 0) := by
  rw [drop_step s k h]
  unfold run
  rw [if_pos hs]

theorem run_go {s : ByteArray} {k : Nat} {st : Int} (h : k < s.size) (hs : step st s[k].toNat ≠ -1) : run st (s.data.toList.drop k) = ((run (step st s[k].toNat) (s.data.toList.drop (k + 1))).1, (run (step st s[k].toNat) (s.data.toList.drop (k + 1))).2 + 1) := by
  rw [drop_step s k h]
  conv => lhs; unfold run
  rw [if_neg hs]

theorem run_end {s : ByteArray} {k : Nat} {st : Int} (h : s.size ≤ k) : run st (s.data.toList.drop k) = (st, 0) := by
  rw [List.drop_eq_nil_of_le (by rw [size_list]; exact h)]
  rfl

/-- Where the automaton stands behind k bytes. -/
def Stands (s : ByteArray) (i k : Nat) (st : Int) : Prop :=
  (run 0 (s.data.toList.drop i)).1 = (run st (s.data.toList.drop k)).1 ∧ i + (run 0 (s.data.toList.drop i)).2 = k + (run st (s.data.toList.drop k)).2

theorem stands_go {s : ByteArray} {i k : Nat} {st : Int} (h : Stands s i k st) (hk : k < s.size) (hs : step st s[k].toNat ≠ -1) : Stands s i (k + 1) (step st s[k].toNat) := by
  obtain ⟨h1, h2⟩ := h
  rw [run_go hk hs] at h1 h2
  exact ⟨h1, by rw [h2]; simp; omega⟩

theorem stands_model {s : ByteArray} {i k : Nat} {st : Int} (h : Stands s i k st) (he : run st (s.data.toList.drop k) = (st, 0)) : model s i = (if acc st then (k, 0) else if k = s.size then (0, 1) else (0, 2)) := by
  obtain ⟨h1, h2⟩ := h
  rw [he] at h1 h2
  unfold model
  rw [h1, h2]
  rfl

set_option maxRecDepth 100000 in
set_option maxHeartbeats 2000000 in
theorem model12 (s : ByteArray) (i : Nat) (w : World) (hi : i ≤ s.size) (hs : s.size ≤ 1048576) :
    Calls Try.prog 12 #[.string s, .int .i64 i] w fun e w' => e = .returned (pair (model s i)) ∧ w' = w := by
  go_enter Try.func12, Try.ntmps12
  go_wp2
  go_loop [6, 7] (fun t v => ∃ (k : Nat) (st : Int), k ≤ s.size ∧ 0 ≤ st ∧ st ≤ 8 ∧ v = .int .i64 k ∧ t = .int .i64 st ∧ Hid (Stands s i k st)) (fun _ v => s.size - (intOf v).toNat)
  case atStart => exact ⟨i, 0, hi, by omega, by omega, rfl, rfl, hid ⟨rfl, rfl⟩⟩
  case round =>
    obtain ⟨k, st, hk, h0, h8, rfl, rfl, hst⟩ := hrel
    by_cases hlt : k < s.size
    · go_wp2_with fail
      refine (step23 st _ ⟨h0, h8⟩ w).mono ?_
      rintro e w' ⟨rfl, rfl⟩
      by_cases hm : step st s[k].toNat = -1
      · have hmo := hid (stands_model hst.out (run_stop hlt hm))
        rw [hm]
        have hkb : ((k : Int) == (s.size : Int)) = false := beq_eq_false_iff_ne.2 (by omega)
        go_wp2_with fail
        refine (acc24 st ⟨h0, h8⟩ _).mono ?_
        rintro e w7 ⟨rfl, rfl⟩
        by_cases ha : acc st = true
        · rw [ha]
          go_wp2
          exact bodyPost_ret (v := pair (k, 0)) (by simp [results, Try.results12, go_sem, pair]) rfl ⟨by rw [hmo.out, if_pos ha], rfl⟩
        · have ha : acc st = false := by simpa using ha
          rw [ha]
          go_wp2
          exact bodyPost_ret (v := pair (0, 2)) (by simp [results, Try.results12, go_sem, pair]) rfl ⟨by rw [hmo.out, if_neg (by simp [ha]), if_neg (by omega)], rfl⟩
      · have hgo := hid (stands_go hst.out hlt hm)
        have hr := step_range _ _ hm
        have hmb : (step st s[k].toNat == -1) = false := beq_eq_false_iff_ne.2 hm
        go_wp2
        exact ⟨⟨k + 1, _, by omega, hr.1, hr.2, by go_num, rfl, hgo⟩, by simp [intOf]; omega⟩
    · have hmo := hid (stands_model hst.out (run_end (by omega)))
      have hkb : ((k : Int) == (s.size : Int)) = true := by rw [beq_iff_eq]; omega
      go_wp2_with fail
      refine (acc24 st ⟨h0, h8⟩ _).mono ?_
      rintro e w7 ⟨rfl, rfl⟩
      by_cases ha : acc st = true
      · rw [ha]
        go_wp2
        exact bodyPost_ret (v := pair (k, 0)) (by simp [results, Try.results12, go_sem, pair]) rfl ⟨by rw [hmo.out, if_pos ha], rfl⟩
      · have ha : acc st = false := by simpa using ha
        rw [ha]
        go_wp2
        exact bodyPost_ret (v := pair (0, 1)) (by simp [results, Try.results12, go_sem, pair]) rfl ⟨by rw [hmo.out, if_neg (by simp [ha]), if_pos (by omega)], rfl⟩
end Go.Proofs.Qxb6603221a
