import Derived.Test.Qxb6603221aRows
import Derived.WalkKit
import Derived.ProofKit
import Derived.OpenShut
import Derived.ShutString
import Derived.OwnWalk
namespace Go.Proofs.Qxb6603221a
open Go.RowKit

/-- The integer in a value. -/
def intOf : Value → Int
  | .int _ n => n
  | _ => 0

/-- A fact that the walk shall not see. -/
def Hid (p : Prop) : Prop := p
theorem hid {p : Prop} (h : p) : Hid p := h
theorem Hid.out {p : Prop} (h : Hid p) : p := h

/-- Is the byte white space? -/
def sp (b : UInt8) : Bool := decide ((b.toNat : Int) = 32 ∨ (b.toNat : Int) = 9 ∨ (b.toNat : Int) = 10 ∨ (b.toNat : Int) = 13)

/-- How many bytes of white space a list begins with. -/
def spaces : List UInt8 → Nat
  | [] => 0
  | b :: l => if sp b then spaces l + 1 else 0

theorem spaces_le : ∀ l : List UInt8, spaces l ≤ l.length
  | [] => Nat.le_refl _
  | b :: l => by
    unfold spaces
    have := spaces_le l
    split <;> simp <;> omega

/-- skipSpace: from i on. -/
def skip (s : ByteArray) (i : Nat) : Nat := i + spaces (s.data.toList.drop i)

theorem size_list (s : ByteArray) : s.data.toList.length = s.size := rfl

theorem skip_le (s : ByteArray) (i : Nat) (h : i ≤ s.size) : skip s i ≤ s.size := by
  unfold skip
  have := spaces_le (s.data.toList.drop i)
  rw [List.length_drop, size_list] at this
  omega

theorem skip_ge (s : ByteArray) (i : Nat) : i ≤ skip s i := Nat.le_add_right _ _

theorem drop_step (s : ByteArray) (i : Nat) (h : i < s.size) : s.data.toList.drop i = s[i] :: s.data.toList.drop (i + 1) := by
  have h' : i < s.data.toList.length := h
  rw [List.drop_eq_getElem_cons h']
  rfl

theorem skip_yes {s : ByteArray} {i : Nat} (h : i < s.size) (hs : sp s[i] = true) : skip s (i + 1) = skip s i := by
  unfold skip
  rw [drop_step s i h]
  simp only [spaces, hs, if_true]
  omega

theorem skip_no {s : ByteArray} {i : Nat} (h : i < s.size) (hs : sp s[i] = false) : skip s i = i := by
  unfold skip
  rw [drop_step s i h]
  simp [spaces, hs]

theorem skip_end {s : ByteArray} {i : Nat} (h : s.size ≤ i) : skip s i = i := by
  unfold skip
  rw [List.drop_eq_nil_of_le (by rw [size_list]; exact h)]
  rfl

set_option maxRecDepth 100000 in
set_option maxHeartbeats 1000000 in
theorem skip32 (s : ByteArray) (i : Nat) (w : World) (hi : i ≤ s.size) (hs : s.size ≤ 1048576) :
    Calls Try.prog 32 #[.string s, .int .i64 i] w fun e w' => e = .returned (.int .i64 (skip s i)) ∧ w' = w := by
  go_enter Try.func32, Try.ntmps32
  go_wp2
  go_loop [1] (fun v => ∃ k : Nat, k ≤ s.size ∧ v = .int .i64 k ∧ Hid (skip s k = skip s i)) (fun v => s.size - (intOf v).toNat)
  case atStart => exact ⟨i, hi, rfl, hid rfl⟩
  case round =>
    obtain ⟨k, hk, rfl, hsk⟩ := hrel
    by_cases hlt : k < s.size
    · by_cases h13 : (s[k].toNat : Int) = 13
      · have hy := hid ((skip_yes hlt (decide_eq_true (by omega))).trans hsk.out)
        go_wp2
        exact ⟨⟨k + 1, by omega, by go_num, hy⟩, by simp [intOf]; omega⟩
      · go_wp2
        · exact ⟨⟨k + 1, by omega, by go_num, hid ((skip_yes hlt (decide_eq_true (by omega))).trans hsk.out)⟩, by simp [intOf]; omega⟩
        · exact ⟨⟨k + 1, by omega, by go_num, hid ((skip_yes hlt (decide_eq_true (by omega))).trans hsk.out)⟩, by simp [intOf]; omega⟩
        · exact ⟨⟨k + 1, by omega, by go_num, hid ((skip_yes hlt (decide_eq_true (by omega))).trans hsk.out)⟩, by simp [intOf]; omega⟩
        · exfalso
          simp only [beq_iff_eq] at *
          omega
        · have hno := skip_no hlt (decide_eq_false (by omega))
          go_ret
          refine ⟨?_, rfl⟩
          rw [← hsk.out, hno]
          rfl
    · go_wp2
      go_ret
      refine ⟨?_, rfl⟩
      rw [← hsk.out, skip_end (by omega)]
      rfl

/-- What readAfterValue answers. -/
def after (s : ByteArray) (i : Nat) (c : Int) : Nat × Bool × Int :=
  if h : skip s i < s.size then
    if (s[skip s i].toNat : Int) = 44 then (skip s (skip s i + 1), true, 0)
    else if (s[skip s i].toNat : Int) = c then (skip s i + 1, false, 0)
    else (0, false, 2)
  else (0, false, 1)

theorem after_comma {s : ByteArray} {i : Nat} {c : Int} (h : skip s i < s.size) (h44 : (s[skip s i].toNat : Int) = 44) : after s i c = (skip s (skip s i + 1), true, 0) := by
  unfold after; rw [dif_pos h, if_pos h44]
theorem after_close {s : ByteArray} {i : Nat} {c : Int} (h : skip s i < s.size) (h44 : ¬ (s[skip s i].toNat : Int) = 44) (hc : (s[skip s i].toNat : Int) = c) : after s i c = (skip s i + 1, false, 0) := by
  unfold after; rw [dif_pos h, if_neg h44, if_pos hc]
theorem after_bad {s : ByteArray} {i : Nat} {c : Int} (h : skip s i < s.size) (h44 : ¬ (s[skip s i].toNat : Int) = 44) (hc : ¬ (s[skip s i].toNat : Int) = c) : after s i c = (0, false, 2) := by
  unfold after; rw [dif_pos h, if_neg h44, if_neg hc]
theorem after_end {s : ByteArray} {i : Nat} {c : Int} (h : ¬ skip s i < s.size) : after s i c = (0, false, 1) := by
  unfold after; rw [dif_neg h]

def triple (x : Nat × Bool × Int) : Value := .tuple #[.int .i64 x.1, .bool x.2.1, .int .i64 x.2.2]

set_option maxRecDepth 100000 in
set_option maxHeartbeats 1000000 in
theorem after26 (s : ByteArray) (i : Nat) (c : Int) (w : World) (hi : i ≤ s.size) (hs : s.size ≤ 1048576) :
    Calls Try.prog 26 #[.string s, .int .i64 i, .int .u8 c] w fun e w' => e = .returned (triple (after s i c)) ∧ w' = w := by
  have hk1 := skip_le s i hi
  go_enter Try.func26, Try.ntmps26
  go_wp2_with fail
  refine (skip32 s i w hi hs).mono ?_
  rintro e w' ⟨rfl, rfl⟩
  by_cases hlt : skip s i < s.size
  · have hne : ((skip s i : Int) == (s.size : Int)) = false := beq_eq_false_iff_ne.2 (by omega)
    by_cases h44 : (s[skip s i].toNat : Int) = 44
    · have he := hid (show after s i c = (skip s (skip s i + 1), true, 0) from after_comma hlt h44)
      go_wp2_with fail
      refine (skip32 s (skip s i + 1) w' (by omega) hs).mono ?_
      rintro e w7 ⟨rfl, rfl⟩
      go_wp2
      rw [he.out]
      exact bodyPost_ret (v := triple (skip s (skip s i + 1), true, 0)) (by simp [results, Try.results26, go_sem, triple]) rfl ⟨rfl, rfl⟩
    · by_cases hc : (s[skip s i].toNat : Int) = c
      · have he := hid (show after s i c = (skip s i + 1, false, 0) from after_close hlt h44 hc)
        have h44b : (c == 44) = false := beq_eq_false_iff_ne.2 (by omega)
        go_wp2
        rw [he.out]
        exact bodyPost_ret (v := triple (skip s i + 1, false, 0)) (by simp [results, Try.results26, go_sem, triple]) rfl ⟨rfl, rfl⟩
      · have he := hid (show after s i c = (0, false, 2) from after_bad hlt h44 hc)
        go_wp2
        rw [he.out]
        exact bodyPost_ret (v := triple (0, false, 2)) (by simp [results, Try.results26, go_sem, triple]) rfl ⟨rfl, rfl⟩
  · have hne : ((skip s i : Int) == (s.size : Int)) = true := by rw [beq_iff_eq]; omega
    have he := hid (show after s i c = (0, false, 1) from after_end hlt)
    go_wp2
    rw [he.out]
    exact bodyPost_ret (v := triple (0, false, 1)) (by simp [results, Try.results26, go_sem, triple]) rfl ⟨rfl, rfl⟩

set_option maxRecDepth 100000 in
theorem door17 (s : ByteArray) (i : Nat) (c : Int) (w : World) (hi : i ≤ s.size) (hs : s.size ≤ 1048576) :
    Calls Try.prog 17 #[.string s, .int .i64 i, .int .u8 c] w fun e w' => e = .returned (triple (after s i c)) ∧ w' = w := by
  go_enter Try.func17, Try.ntmps17
  go_wp2_with fail
  refine (after26 s i c w hi hs).mono ?_
  rintro e w' ⟨rfl, rfl⟩
  obtain ⟨⟨en, mo, ou⟩, hx⟩ : ∃ x, after s i c = x := ⟨_, rfl⟩
  rw [hx]
  have HX := hid hx
  clear hx
  unfold triple
  go_wp2
  exact bodyPost_ret (v := .tuple #[.int .i64 en, .bool mo, .int .i64 ou]) (by simp [results, Try.results17, go_sem]) rfl ⟨by rw [HX.out]; rfl, rfl⟩

theorem drop_app (p d : ByteArray) (i : Nat) : (p ++ d).data.toList.drop (p.size + i) = d.data.toList.drop i := by
  have e : (p ++ d).data.toList = p.data.toList ++ d.data.toList := by simp [ByteArray.data_append]
  rw [e, List.drop_append]
  have h : p.data.toList.length = p.size := rfl
  rw [h, List.drop_eq_nil_of_le (by rw [h]; omega)]
  simp

theorem skip_app (p d : ByteArray) (i : Nat) : skip (p ++ d) (p.size + i) = p.size + skip d i := by
  unfold skip
  rw [drop_app]
  omega

theorem get_app (p d : ByteArray) (i : Nat) (h : i < d.size) (h' : p.size + i < (p ++ d).size) : (p ++ d)[p.size + i] = d[i] := by
  have a := drop_step (p ++ d) (p.size + i) h'
  have b := drop_step d i h
  rw [drop_app, b] at a
  injection a with a _
  exact a.symm

theorem after_app (p d : ByteArray) (i : Nat) (c : Int) : after (p ++ d) (p.size + i) c = (if (after d i c).2.2 = 0 then p.size + (after d i c).1 else 0, (after d i c).2.1, (after d i c).2.2) ∧ ((after d i c).2.2 ≠ 0 → (after d i c).1 = 0 ∧ (after d i c).2.1 = false) := by
  have hsz : (p ++ d).size = p.size + d.size := ByteArray.size_append
  have hsk := skip_app p d i
  by_cases hlt : skip d i < d.size
  · have hlt0 : p.size + skip d i < (p ++ d).size := by omega
    have hlt' : skip (p ++ d) (p.size + i) < (p ++ d).size := by omega
    have hg : (p ++ d)[skip (p ++ d) (p.size + i)] = d[skip d i] := by
      rw [← get_app p d (skip d i) hlt hlt0]
      congr 1
    by_cases h44 : (d[skip d i].toNat : Int) = 44
    · rw [after_comma hlt h44, after_comma hlt' (by rw [hg]; exact h44), hsk, Nat.add_assoc, skip_app]
      simp
    · by_cases hc : (d[skip d i].toNat : Int) = c
      · rw [after_close hlt h44 hc, after_close hlt' (by rw [hg]; exact h44) (by rw [hg]; exact hc), hsk, Nat.add_assoc]
        simp
      · rw [after_bad hlt h44 hc, after_bad hlt' (by rw [hg]; exact h44) (by rw [hg]; exact hc)]
        simp
  · have hlt' : ¬ skip (p ++ d) (p.size + i) < (p ++ d).size := by omega
    rw [after_end hlt, after_end hlt']
    simp

theorem after_le (s : ByteArray) (i : Nat) (c : Int) : (after s i c).1 ≤ s.size := by
  by_cases hlt : skip s i < s.size
  · by_cases h44 : (s[skip s i].toNat : Int) = 44
    · rw [after_comma hlt h44]
      exact skip_le s _ (by omega)
    · by_cases hc : (s[skip s i].toNat : Int) = c
      · rw [after_close hlt h44 hc]
        exact hlt
      · rw [after_bad hlt h44 hc]
        exact Nat.zero_le _
  · rw [after_end hlt]
    exact Nat.zero_le _

set_option maxRecDepth 100000 in
set_option maxHeartbeats 1000000 in
theorem law7 (p d : ByteArray) (z c : Int) (w0 : p.size ≤ maxLen) (w1 : d.size ≤ maxLen) (w : World) :
    Calls Try.prog 7 #[.string p, .string d, .int .i64 z, .int .u8 c] w fun e w' => e = .returned (.bool true) ∧ Grown w w' := by
  unfold maxLen at w0 w1
  go_enter Try.func7, Try.ntmps7
  go_wp2_with (first | (go_at_call 18; go_in) | fail)
  all_goals try (go_ret; exact ⟨rfl, Grown.refl _⟩)
  obtain ⟨n, rfl⟩ := Int.eq_ofNat_of_zero_le (show 0 ≤ z by omega)
  have hsz : (p ++ d).size = p.size + d.size := ByteArray.size_append
  have HS := hid hsz
  clear hsz
  obtain ⟨ha, hb⟩ := after_app p d n c
  have hle := after_le d n c
  refine (door17 d n c w (by omega) (by omega)).mono ?_
  rintro e w' ⟨rfl, rfl⟩
  obtain ⟨⟨en, mo, ou⟩, hx⟩ : ∃ x, after d n c = x := ⟨_, rfl⟩
  rw [hx] at ha hb hle
  rw [hx]
  simp only at hle
  have HA := hid ha
  have HB := hid hb
  clear ha hb hx
  unfold triple
  go_wp2_with fail
  refine (door17 (p ++ d) (p.size + n) c w' (by have := HS.out; omega) (by have := HS.out; omega)).mono ?_
  rintro e w7 ⟨rfl, rfl⟩
  rw [HA.out]
  unfold triple
  by_cases h0 : ou = 0
  · subst h0
    rw [if_pos rfl]
    go_wp2
    go_ret
    refine ⟨?_, Grown.refl _⟩
    simp
    omega
  · obtain ⟨rfl, rfl⟩ := HB.out h0
    rw [if_neg h0]
    have h0b : (ou == 0) = false := beq_eq_false_iff_ne.2 h0
    go_wp2
    go_ret
    exact ⟨rfl, Grown.refl _⟩
end Go.Proofs.Qxb6603221a
