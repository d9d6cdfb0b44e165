import Derived.Test.Qxb6603221aAfter
namespace Go.Proofs.Qxb6603221a
open Go.RowKit

/-- Is the byte a digit? -/
def dig (b : Int) : Bool := decide (48 ≤ b) && decide (b ≤ 57)
def expo (b : Int) : Bool := decide (b = 101) || decide (b = 69)

set_option maxRecDepth 100000 in
theorem dig30 (b : Int) (w : World) : Calls Try.prog 30 #[.int .u8 b] w fun e w' => e = .returned (.bool (dig b)) ∧ w' = w := by
  go_enter Try.func30, Try.ntmps30
  by_cases h1 : 48 ≤ b
  · by_cases h2 : b ≤ 57
    · go_wp2
      go_ret
      exact ⟨by simp [dig, h1, h2], rfl⟩
    · go_wp2
      go_ret
      exact ⟨by simp [dig, h1, h2], rfl⟩
  · go_wp2
    go_ret
    exact ⟨by simp [dig]; omega, rfl⟩

set_option maxRecDepth 100000 in
theorem exp31 (b : Int) (w : World) : Calls Try.prog 31 #[.int .u8 b] w fun e w' => e = .returned (.bool (expo b)) ∧ w' = w := by
  go_enter Try.func31, Try.ntmps31
  by_cases h1 : b = 101
  · subst h1
    go_wp2
    go_ret
    exact ⟨rfl, rfl⟩
  · have h1b : (b == 101) = false := beq_eq_false_iff_ne.2 h1
    by_cases h2 : b = 69
    · subst h2
      go_wp2
      go_ret
      exact ⟨rfl, rfl⟩
    · have h2b : (b == 69) = false := beq_eq_false_iff_ne.2 h2
      go_wp2
      go_ret
      exact ⟨by simp [expo, h1, h2], rfl⟩

/-- The automaton's step. -/
def step (s b : Int) : Int :=
  if s = 0 then (if b = 45 then 1 else if b = 48 then 2 else if dig b then 3 else -1)
  else if s = 1 then (if b = 48 then 2 else if dig b then 3 else -1)
  else if s = 2 then (if b = 46 then 4 else if expo b then 6 else -1)
  else if s = 3 then (if dig b then 3 else if b = 46 then 4 else if expo b then 6 else -1)
  else if s = 4 then (if dig b then 5 else -1)
  else if s = 5 then (if dig b then 5 else if expo b then 6 else -1)
  else if s = 6 then (if b = 43 ∨ b = 45 then 7 else if dig b then 8 else -1)
  else if s = 7 ∨ s = 8 then (if dig b then 8 else -1)
  else -1

/-- How many digits a list begins with. -/
def digs : List UInt8 → Nat
  | [] => 0
  | b :: l => if dig b.toNat then digs l + 1 else 0

theorem digs_le : ∀ l : List UInt8, digs l ≤ l.length
  | [] => Nat.le_refl _
  | b :: l => by
    unfold digs
    have := digs_le l
    split <;> simp <;> omega

/-- skipDigits: from i on. -/
def skipD (s : ByteArray) (i : Nat) : Nat := i + digs (s.data.toList.drop i)

theorem skipD_le (s : ByteArray) (i : Nat) (h : i ≤ s.size) : skipD s i ≤ s.size := by
  unfold skipD
  have := digs_le (s.data.toList.drop i)
  rw [List.length_drop, size_list] at this
  omega

theorem skipD_yes {s : ByteArray} {i : Nat} (h : i < s.size) (hs : dig s[i].toNat = true) : skipD s (i + 1) = skipD s i := by
  unfold skipD
  rw [drop_step s i h]
  simp only [digs, hs, if_true]
  omega

theorem skipD_no {s : ByteArray} {i : Nat} (h : i < s.size) (hs : dig s[i].toNat = false) : skipD s i = i := by
  unfold skipD
  rw [drop_step s i h]
  simp [digs, hs]

theorem skipD_end {s : ByteArray} {i : Nat} (h : s.size ≤ i) : skipD s i = i := by
  unfold skipD
  rw [List.drop_eq_nil_of_le (by rw [size_list]; exact h)]
  rfl

set_option maxRecDepth 100000 in
set_option maxHeartbeats 1000000 in
theorem skipD28 (s : ByteArray) (i : Nat) (w : World) (hi : i ≤ s.size) (hs : s.size ≤ 1048576) :
    Calls Try.prog 28 #[.string s, .int .i64 i] w fun e w' => e = .returned (.int .i64 (skipD s i)) ∧ w' = w := by
  go_enter Try.func28, Try.ntmps28
  go_wp2
  go_loop [1] (fun v => ∃ k : Nat, k ≤ s.size ∧ v = .int .i64 k ∧ Hid (skipD s k = skipD s i)) (fun v => s.size - (intOf v).toNat)
  case atStart => exact ⟨i, hi, rfl, hid rfl⟩
  case round =>
    obtain ⟨k, hk, rfl, hsk⟩ := hrel
    by_cases hlt : k < s.size
    · by_cases h1 : (48 : Int) ≤ (s[k].toNat : Int)
      · by_cases h2 : (s[k].toNat : Int) ≤ 57
        · have hy := hid ((skipD_yes hlt (by simp [dig]; omega)).trans hsk.out)
          go_wp2
          exact ⟨⟨k + 1, by omega, by go_num, hy⟩, by simp [intOf]; omega⟩
        · have hno := hid (skipD_no hlt (by simp [dig]; omega))
          go_wp2
          go_ret
          refine ⟨?_, rfl⟩
          rw [← hsk.out, hno.out]
          rfl
      · have hno := hid (skipD_no hlt (by simp [dig]; omega))
        go_wp2
        go_ret
        refine ⟨?_, rfl⟩
        rw [← hsk.out, hno.out]
        rfl
    · go_wp2
      go_ret
      refine ⟨?_, rfl⟩
      rw [← hsk.out, skipD_end (by omega)]
      rfl

/-- readDigits. -/
def readD (s : ByteArray) (i : Nat) : Nat × Int :=
  if i < skipD s i then (skipD s i, 0) else if i = s.size then (0, 1) else (0, 2)

def pair (x : Nat × Int) : Value := .tuple #[.int .i64 x.1, .int .i64 x.2]

set_option maxRecDepth 100000 in
set_option maxHeartbeats 1000000 in
theorem readD29 (s : ByteArray) (i : Nat) (w : World) (hi : i ≤ s.size) (hs : s.size ≤ 1048576) :
    Calls Try.prog 29 #[.string s, .int .i64 i] w fun e w' => e = .returned (pair (readD s i)) ∧ w' = w := by
  have hle := skipD_le s i hi
  go_enter Try.func29, Try.ntmps29
  go_wp2_with fail
  refine (skipD28 s i w hi hs).mono ?_
  rintro e w' ⟨rfl, rfl⟩
  by_cases h1 : i < skipD s i
  · have he := hid (show readD s i = (skipD s i, 0) by unfold readD; rw [if_pos h1])
    go_wp2
    refine bodyPost_ret (v := pair (skipD s i, 0)) (by simp [results, Try.results29, go_sem, pair]) rfl ⟨by rw [he.out], rfl⟩
  · by_cases h2 : i = s.size
    · have he := hid (show readD s i = (0, 1) by unfold readD; rw [if_neg h1, if_pos h2])
      have h2b : ((i : Int) == (s.size : Int)) = true := by rw [beq_iff_eq]; omega
      have H2 := hid h2
      clear h2
      go_wp2
      refine bodyPost_ret (v := pair (0, 1)) (by simp [results, Try.results29, go_sem, pair]) rfl ⟨by rw [he.out], rfl⟩
    · have he := hid (show readD s i = (0, 2) by unfold readD; rw [if_neg h1, if_neg h2])
      have h2b : ((i : Int) == (s.size : Int)) = false := beq_eq_false_iff_ne.2 (by omega)
      go_wp2
      refine bodyPost_ret (v := pair (0, 2)) (by simp [results, Try.results29, go_sem, pair]) rfl ⟨by rw [he.out], rfl⟩
end Go.Proofs.Qxb6603221a
