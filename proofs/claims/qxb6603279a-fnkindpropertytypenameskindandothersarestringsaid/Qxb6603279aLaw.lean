import Derived.Test.Qxb6603279aProp
namespace Go.Proofs.Qxb6603279a
open Go.RowKit

theorem bytes8_long (k : Int) (s : ByteArray) (hs : (1048576 : Int) < (s.size : Int)) (w : World) :
    Calls Try.prog 8 #[.int .i64 k, .string s] w fun e w' => e = .returned (.bool false) ∧ w' = w := by
  go_enter Try.func8, Try.ntmps8
  go_wp2
  go_ret
  exact ⟨rfl, rfl⟩

theorem law4_long (k : Int) (s : ByteArray) (hs : (1048576 : Int) < (s.size : Int)) (w : World) :
    Calls Try.prog 4 #[.int .i64 k, .string s] w fun e w' => e = .returned (.bool true) ∧ Grown w w' := by
  go_enter Try.func4, Try.ntmps4
  go_wp2_with fail
  refine (bytes8_long k s hs _).mono ?_
  rintro e w' ⟨rfl, rfl⟩
  go_wp2
  go_ret
  exact ⟨rfl, Grown.refl _⟩

theorem law4_0 (s : ByteArray) (hs : s.size ≤ 1048576) (w : World) :
    Calls Try.prog 4 #[.int .i64 0, .string s] w fun e w' => e = .returned (.bool true) ∧ Grown w w' := by
  have h1 : ¬ (1048576 : Int) < (s.size : Int) := by omega
  go_enter Try.func4, Try.ntmps4
  go_wp2_with fail
  refine (bytes8 0 s hs _).mono ?_
  rintro e w' ⟨rfl, rfl⟩
  go_wp2_with fail
  refine (prop6_other 0 s rfl rfl rfl _).mono ?_
  rintro e w' ⟨rfl, rfl⟩
  go_wp2_with fail
  refine (kind9_str _).mono ?_
  rintro e w' ⟨rfl, rfl⟩
  go_wp2_with fail
  go_ret
  exact ⟨rfl, by repeat (first | exact Grown.refl _ | apply Grown.drew | apply Grown.alloc)⟩

theorem law4_1 (s : ByteArray) (hs : s.size ≤ 1048576) (w : World) :
    Calls Try.prog 4 #[.int .i64 1, .string s] w fun e w' => e = .returned (.bool true) ∧ Grown w w' := by
  have h1 : ¬ (1048576 : Int) < (s.size : Int) := by omega
  go_enter Try.func4, Try.ntmps4
  go_wp2_with fail
  refine (bytes8 1 s hs _).mono ?_
  rintro e w' ⟨rfl, rfl⟩
  go_wp2_with fail
  refine (prop6_1 s _).mono ?_
  rintro e w' ⟨rfl, rfl⟩
  go_wp2_with fail
  refine (kind9_arr _).mono ?_
  rintro e w' ⟨rfl, rfl⟩
  go_wp2_with fail
  refine (kind9_str _).mono ?_
  rintro e w' ⟨rfl, rfl⟩
  go_wp2_with fail
  go_ret
  exact ⟨rfl, by repeat (first | exact Grown.refl _ | apply Grown.drew | apply Grown.alloc)⟩

theorem law4_2 (s : ByteArray) (hs : s.size ≤ 1048576) (w : World) :
    Calls Try.prog 4 #[.int .i64 2, .string s] w fun e w' => e = .returned (.bool true) ∧ Grown w w' := by
  have h1 : ¬ (1048576 : Int) < (s.size : Int) := by omega
  go_enter Try.func4, Try.ntmps4
  go_wp2_with fail
  refine (bytes8 2 s hs _).mono ?_
  rintro e w' ⟨rfl, rfl⟩
  go_wp2_with fail
  refine (prop6_2 s _).mono ?_
  rintro e w' ⟨rfl, rfl⟩
  go_wp2_with fail
  refine (kind9_int _).mono ?_
  rintro e w' ⟨rfl, rfl⟩
  go_wp2_with fail
  go_ret
  exact ⟨rfl, by repeat (first | exact Grown.refl _ | apply Grown.drew | apply Grown.alloc)⟩

theorem law4_3 (s : ByteArray) (hs : s.size ≤ 1048576) (w : World) :
    Calls Try.prog 4 #[.int .i64 3, .string s] w fun e w' => e = .returned (.bool true) ∧ Grown w w' := by
  have h1 : ¬ (1048576 : Int) < (s.size : Int) := by omega
  go_enter Try.func4, Try.ntmps4
  go_wp2_with fail
  refine (bytes8 3 s hs _).mono ?_
  rintro e w' ⟨rfl, rfl⟩
  go_wp2_with fail
  refine (prop6_3 s _).mono ?_
  rintro e w' ⟨rfl, rfl⟩
  go_wp2_with fail
  refine (kind9_boo _).mono ?_
  rintro e w' ⟨rfl, rfl⟩
  go_wp2_with fail
  go_ret
  exact ⟨rfl, by repeat (first | exact Grown.refl _ | apply Grown.drew | apply Grown.alloc)⟩

theorem Grown.drewN {W w' : World} (h : Grown W w') (n : Nat) : Grown W (w'.drewN n) := h

theorem law4_low (k : Int) (s : ByteArray) (hs : s.size ≤ 1048576) (hk : k < 0) (w : World) :
    Calls Try.prog 4 #[.int .i64 k, .string s] w fun e w' => e = .returned (.bool true) ∧ Grown w w' := by
  have h1 : ¬ (1048576 : Int) < (s.size : Int) := by omega
  have e1 : (k == 1) = false := beq_eq_false_iff_ne.2 (by omega)
  have e2 : (k == 2) = false := beq_eq_false_iff_ne.2 (by omega)
  have e3 : (k == 3) = false := beq_eq_false_iff_ne.2 (by omega)
  have g0 : decide (0 ≤ k) = false := by simp; omega
  go_enter Try.func4, Try.ntmps4
  go_wp2_with fail
  refine (bytes8 k s hs _).mono ?_
  rintro e w' ⟨rfl, rfl⟩
  go_wp2_with fail
  refine (prop6_other k s e1 e2 e3 _).mono ?_
  rintro e w' ⟨rfl, rfl⟩
  go_wp2_with fail
  refine (prop6_other 0 s rfl rfl rfl _).mono ?_
  rintro e w' ⟨rfl, rfl⟩
  go_wp2_with fail
  refine (same7 s _).mono ?_
  rintro e w' ⟨rfl, n, rfl⟩
  go_wp2_with fail
  go_ret
  exact ⟨rfl, by repeat (first | exact Grown.refl _ | apply Grown.drewN | apply Grown.alloc)⟩

theorem law4_high (k : Int) (s : ByteArray) (hs : s.size ≤ 1048576) (hk : 3 < k) (w : World) :
    Calls Try.prog 4 #[.int .i64 k, .string s] w fun e w' => e = .returned (.bool true) ∧ Grown w w' := by
  have h1 : ¬ (1048576 : Int) < (s.size : Int) := by omega
  have e1 : (k == 1) = false := beq_eq_false_iff_ne.2 (by omega)
  have e2 : (k == 2) = false := beq_eq_false_iff_ne.2 (by omega)
  have e3 : (k == 3) = false := beq_eq_false_iff_ne.2 (by omega)
  have g0 : decide (0 ≤ k) = true := by simp; omega
  have g3 : decide (k ≤ 3) = false := by simp; omega
  go_enter Try.func4, Try.ntmps4
  go_wp2_with fail
  refine (bytes8 k s hs _).mono ?_
  rintro e w' ⟨rfl, rfl⟩
  go_wp2_with fail
  refine (prop6_other k s e1 e2 e3 _).mono ?_
  rintro e w' ⟨rfl, rfl⟩
  go_wp2_with fail
  refine (prop6_other 0 s rfl rfl rfl _).mono ?_
  rintro e w' ⟨rfl, rfl⟩
  go_wp2_with fail
  refine (same7 s _).mono ?_
  rintro e w' ⟨rfl, n, rfl⟩
  go_wp2_with fail
  go_ret
  exact ⟨rfl, by repeat (first | exact Grown.refl _ | apply Grown.drewN | apply Grown.alloc)⟩

theorem law4 (k : Int) (s : ByteArray) (w : World) :
    Calls Try.prog 4 #[.int .i64 k, .string s] w fun e w' => e = .returned (.bool true) ∧ Grown w w' := by
  by_cases hs : s.size ≤ 1048576
  · by_cases hl : k < 0
    · exact law4_low k s hs hl w
    by_cases hh : 3 < k
    · exact law4_high k s hs hh w
    have h4 : k = 0 ∨ k = 1 ∨ k = 2 ∨ k = 3 := by omega
    rcases h4 with rfl | rfl | rfl | rfl
    · exact law4_0 s hs w
    · exact law4_1 s hs w
    · exact law4_2 s hs w
    · exact law4_3 s hs w
  · exact law4_long k s (by omega) w
end Go.Proofs.Qxb6603279a
