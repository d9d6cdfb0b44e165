import Derived.Test.Qxb6603221aRead
namespace Go.Proofs.Qxb6603221a
open Go.RowKit

set_option maxRecDepth 100000 in
theorem door11 (s : ByteArray) (i : Nat) (w : World) (hi : i < s.size) (hs : s.size ≤ 1048576) :
    Calls Try.prog 11 #[.string s, .int .i64 i] w fun e w' => e = .returned (pair (num s i)) ∧ w' = w := by
  go_enter Try.func11, Try.ntmps11
  go_wp2_with fail
  refine (num22 s i w hi hs).mono ?_
  rintro e w' ⟨rfl, rfl⟩
  obtain ⟨⟨en, ou⟩, hx⟩ : ∃ x, num s i = x := ⟨_, rfl⟩
  rw [hx]
  have HX := hid hx
  clear hx
  unfold pair
  go_wp2
  exact bodyPost_ret (v := .tuple #[.int .i64 en, .int .i64 ou]) (by simp [results, Try.results11, go_sem]) rfl ⟨by rw [HX.out]; rfl, rfl⟩

set_option maxRecDepth 100000 in
set_option maxHeartbeats 1000000 in
theorem law3 (s : ByteArray) (z : Int) (w0 : s.size ≤ maxLen) (w : World) :
    Calls Try.prog 3 #[.string s, .int .i64 z] w fun e w' => e = .returned (.bool true) ∧ Grown w w' := by
  unfold maxLen at w0
  go_enter Try.func3, Try.ntmps3
  go_wp2_with (first | (go_at_call 10; go_in) | fail)
  all_goals try (go_ret; exact ⟨rfl, Grown.refl _⟩)
  obtain ⟨n, rfl⟩ := Int.eq_ofNat_of_zero_le (show 0 ≤ z by omega)
  refine (door11 s n w (by omega) (by omega)).mono ?_
  rintro e w' ⟨rfl, rfl⟩
  have hmn := model_num s n (by omega)
  rw [← hmn]
  clear hmn
  obtain ⟨⟨en, ou⟩, hx⟩ : ∃ x, model s n = x := ⟨_, rfl⟩
  have HX := hid hx
  rw [hx]
  clear hx
  unfold pair
  go_wp2_with fail
  refine (model12 s n _ (by omega) (by omega)).mono ?_
  rintro e w7 ⟨rfl, rfl⟩
  rw [HX.out]
  unfold pair
  go_wp2
  go_ret
  exact ⟨rfl, Grown.refl _⟩
end Go.Proofs.Qxb6603221a
