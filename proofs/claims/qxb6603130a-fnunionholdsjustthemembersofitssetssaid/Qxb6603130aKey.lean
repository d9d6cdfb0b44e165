import Derived.Test.Qxb6603130aMap
import Derived.Lib.AppendStr
import Derived.Lib.Strings
namespace Go.Proofs.Qxb6603130a
open Go.RowKit Go.Maps Go.WideMaps

def begins (s p : ByteArray) : Bool := decide (p.size ≤ s.size) && ((s.extract 0 p.size).toList == p.toList)

set_option maxRecDepth 100000 in
set_option maxHeartbeats 400000 in
theorem has68 (s p : ByteArray) (w : World) (b : Bool) (hb : begins s p = b) : Calls Try.prog 68 #[.string s, .string p] w fun e w' => e = .returned (.bool b) ∧ w' = w := by
  subst hb
  unfold begins
  by_cases h : p.size ≤ s.size
  · have hd : decide (p.size ≤ s.size) = true := by simpa using h
    rw [hd, Bool.true_and]
    go_enter Try.func68, Try.ntmps68
    go_wp2
    go_ret
    exact ⟨rfl, rfl⟩
  · have hd : decide (p.size ≤ s.size) = false := by simpa using h
    rw [hd, Bool.false_and]
    go_enter Try.func68, Try.ntmps68
    go_wp2
    go_ret
    exact ⟨rfl, rfl⟩

theorem begins_le {s p : ByteArray} (h : begins s p = true) : p.size ≤ s.size := by simp [begins] at h; exact h.1

set_option maxRecDepth 100000 in
set_option maxHeartbeats 400000 in
theorem cut51_yes (s p : ByteArray) (w : World) (hb : Hid (begins s p = true)) : Calls Try.prog 51 #[.string s, .string p] w fun e w' => e = .returned (.tuple #[.string (s.extract p.size s.size), .bool true]) ∧ w' = w := by
  have hle := begins_le hb.out
  go_enter Try.func51, Try.ntmps51
  go_wp2_with (first | (go_at_call 68; refine (has68 s p _ true hb.out).mono ?_; rintro e w' ⟨rfl, rfl⟩) | go_in)
  go_ret2
  exact ⟨rfl, rfl⟩

set_option maxRecDepth 100000 in
set_option maxHeartbeats 400000 in
theorem cut51_no (s p : ByteArray) (w : World) (hb : Hid (begins s p = false)) : Calls Try.prog 51 #[.string s, .string p] w fun e w' => e = .returned (.tuple #[.string s, .bool false]) ∧ w' = w := by
  go_enter Try.func51, Try.ntmps51
  go_wp2_with (first | (go_at_call 68; refine (has68 s p _ false hb.out).mono ?_; rintro e w' ⟨rfl, rfl⟩) | go_in)
  go_ret2
  exact ⟨rfl, rfl⟩

theorem MapIs.alloc {w : World} {m : Value} {f : ByteArray → Bool} (h : MapIs w m f) (o : Obj) : MapIs (w.alloc o) m f :=
  h.kept (fun b _ hlt => Below.heap_alloc w o b hlt)

set_option maxRecDepth 100000 in
set_option maxHeartbeats 400000 in
theorem key_1 (P N pre name : ByteArray) (m : Value) (pb : Nat) (w : World) (h1 : pre.size < P.size) (hb : Hid (begins P pre = false)) :
    Calls Try.prog 45 #[.agg #[.string P, .string N, m], .string pre, .string name, .pointer (some ⟨pb, 0, none⟩)] w fun e w' => e = .returned (.tuple #[.string ByteArray.empty, .bool false]) ∧ Below w.heap.size w w' := by
  go_enter Try.func45, Try.ntmps45
  go_wp2_with (first | (go_at_call 51; refine (cut51_no P pre _ hb).mono ?_; rintro e w' ⟨rfl, rfl⟩) | go_in)
  go_ret2
  exact ⟨rfl, (Below.refl _ _).alloc (Nat.le_refl _) _⟩

set_option maxRecDepth 100000 in
set_option maxHeartbeats 400000 in
theorem key_2 (P N pre name : ByteArray) (m : Value) (pb : Nat) (w : World) (h1 : pre.size < P.size) (hb : Hid (begins P pre = true)) (hb2 : Hid (begins name (P.extract pre.size P.size) = false)) :
    Calls Try.prog 45 #[.agg #[.string P, .string N, m], .string pre, .string name, .pointer (some ⟨pb, 0, none⟩)] w fun e w' => e = .returned (.tuple #[.string name, .bool false]) ∧ Below w.heap.size w w' := by
  go_enter Try.func45, Try.ntmps45
  go_wp2_with fail
  refine (cut51_yes P pre _ hb).mono ?_
  rintro e w' ⟨rfl, rfl⟩
  go_wp2_with fail
  refine (cut51_no name _ _ hb2).mono ?_
  rintro e w' ⟨rfl, rfl⟩
  go_wp2_with fail
  go_ret2
  exact ⟨rfl, (Below.refl _ _).alloc (Nat.le_refl _) _⟩

set_option maxRecDepth 100000 in
set_option maxHeartbeats 400000 in
theorem key_3 (P N pre name : ByteArray) (m : Value) (f : ByteArray → Bool) (pb : Nat) (w : World) (hn : name.size ≤ 2097152) (h1 : pre.size < P.size) (hb : Hid (begins P pre = true)) (hb2 : Hid (begins name (P.extract pre.size P.size) = true)) (hm : Hid (MapIs w m f)) :
    Calls Try.prog 45 #[.agg #[.string P, .string N, m], .string pre, .string name, .pointer (some ⟨pb, 0, none⟩)] w fun e w' => e = .returned (.tuple #[.string (name.extract (P.size - pre.size) name.size), .bool (f (name.extract (P.size - pre.size) name.size))]) ∧ Below w.heap.size w w' := by
  go_enter Try.func45, Try.ntmps45
  go_wp2_with fail
  refine (cut51_yes P pre _ hb).mono ?_
  rintro e w' ⟨rfl, rfl⟩
  go_wp2_with fail
  refine (cut51_yes name _ _ hb2).mono ?_
  rintro e w' ⟨rfl, rfl⟩
  go_wp2_with (first | (at_lookup; refine wpList_look _ rfl _ _ rfl _ f rfl (hm.out.alloc _) _ rfl (by rw [ByteArray.size_extract]; unfold maxLen; omega) ?_; intro v) | fail)
  go_ret2
  exact ⟨rfl, (Below.refl _ _).alloc (Nat.le_refl _) _⟩

set_option maxRecDepth 100000 in
set_option maxHeartbeats 400000 in
theorem key_4 (P N pre name : ByteArray) (m : Value) (pb : Nat) (w : World) (h1 : ¬ pre.size < P.size) (hb : Hid (begins pre P = false)) :
    Calls Try.prog 45 #[.agg #[.string P, .string N, m], .string pre, .string name, .pointer (some ⟨pb, 0, none⟩)] w fun e w' => e = .returned (.tuple #[.string ByteArray.empty, .bool false]) ∧ Below w.heap.size w w' := by
  go_enter Try.func45, Try.ntmps45
  go_wp2_with fail
  refine (cut51_no pre P _ hb).mono ?_
  rintro e w' ⟨rfl, rfl⟩
  go_wp2_with fail
  go_ret2
  exact ⟨rfl, (Below.refl _ _).alloc (Nat.le_refl _) _⟩

set_option maxRecDepth 100000 in
set_option maxHeartbeats 400000 in
theorem key_5 (P N pre name : ByteArray) (m : Value) (f : ByteArray → Bool) (pb : Nat) (w : World) (hn : name.size ≤ 2097152) (h1 : ¬ pre.size < P.size) (hb : Hid (begins pre P = true)) (he : (pre.extract P.size pre.size).toList.isEmpty = true) (hm : Hid (MapIs w m f)) :
    Calls Try.prog 45 #[.agg #[.string P, .string N, m], .string pre, .string name, .pointer (some ⟨pb, 0, none⟩)] w fun e w' => e = .returned (.tuple #[.string name, .bool (f name)]) ∧ Below w.heap.size w w' := by
  go_enter Try.func45, Try.ntmps45
  go_wp2_with fail
  refine (cut51_yes pre P _ hb).mono ?_
  rintro e w' ⟨rfl, rfl⟩
  go_wp2_with (first | (at_lookup; refine wpList_look _ rfl _ _ rfl _ f rfl (hm.out.alloc _) _ rfl (by unfold maxLen; omega) ?_; intro v) | fail)
  go_ret2
  exact ⟨rfl, (Below.refl _ _).alloc (Nat.le_refl _) _⟩
end Go.Proofs.Qxb6603130a
