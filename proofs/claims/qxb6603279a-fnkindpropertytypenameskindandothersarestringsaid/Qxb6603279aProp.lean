import Derived.Test.Qxb6603279aRows
import Derived.WalkKit
import Derived.ProofKit
import Derived.BigQuiet
namespace Go.Proofs.Qxb6603279a
open Go.RowKit

abbrev Rec (t s : ByteArray) (p : Option Addr) (n : Int) (q : Option Addr) : Array Value := #[.string t, .string s, .pointer p, .int .i64 n, .pointer q]
abbrev tStr : ByteArray := { data := #[115, 116, 114, 105, 110, 103] }
abbrev tArr : ByteArray := { data := #[97, 114, 114, 97, 121] }
abbrev tInt : ByteArray := { data := #[105, 110, 116, 101, 103, 101, 114] }
abbrev tBoo : ByteArray := { data := #[98, 111, 111, 108, 101, 97, 110] }
abbrev zero : Array Value := #[.string { data := #[] }, .string { data := #[] }, .pointer none, .int .i64 0, .pointer none]

theorem bytes8 (k : Int) (s : ByteArray) (hs : s.size ≤ 1048576) (w : World) :
    Calls Try.prog 8 #[.int .i64 k, .string s] w fun e w' => e = .returned (.bool true) ∧ w' = w := by
  have h1 : ¬ (1048576 : Int) < (s.size : Int) := by omega
  go_enter Try.func8, Try.ntmps8
  go_wp2
  go_ret
  exact ⟨rfl, rfl⟩

theorem prop10_other (k : Int) (s : ByteArray) (h1 : (k == 1) = false) (h2 : (k == 2) = false) (h3 : (k == 3) = false) (w : World) :
    Calls Try.prog 10 #[.int .i64 k, .string s] w fun e w' => e = .returned (.agg (Rec tStr s none 0 none)) ∧ w' = w.alloc (.cells (Rec tStr s none 0 none) 26) := by
  go_enter Try.func10, Try.ntmps10
  go_wp2
  exact bodyPost_ret (v := .agg (Rec tStr s none 0 none)) (by simp [results, Try.results10, go_sem]) rfl ⟨rfl, rfl⟩

theorem prop10_1 (s : ByteArray) (w : World) :
    Calls Try.prog 10 #[.int .i64 1, .string s] w fun e w' => e = .returned (.agg (Rec tArr s (some { block := w.heap.size + 1, off := 0 }) 1 none)) ∧ w' = (w.alloc (.cells (Rec tArr s (some { block := w.heap.size + 1, off := 0 }) 1 none) 26)).alloc (.cells (Rec tStr { data := #[] } none 0 none) 26) := by
  go_enter Try.func10, Try.ntmps10
  go_wp2
  exact bodyPost_ret (v := .agg (Rec tArr s (some { block := w.heap.size + 1, off := 0 }) 1 none)) (by simp [results, Try.results10, go_sem]) rfl ⟨rfl, rfl⟩

theorem prop10_2 (s : ByteArray) (w : World) :
    Calls Try.prog 10 #[.int .i64 2, .string s] w fun e w' => e = .returned (.agg (Rec tInt s none 0 (some { block := w.heap.size + 1, off := 0 }))) ∧ w' = (w.alloc (.cells (Rec tInt s none 0 (some { block := w.heap.size + 1, off := 0 })) 26)).alloc (.cells #[.int .i64 0] 3) := by
  go_enter Try.func10, Try.ntmps10
  go_wp2
  exact bodyPost_ret (v := .agg (Rec tInt s none 0 (some { block := w.heap.size + 1, off := 0 }))) (by simp [results, Try.results10, go_sem]) rfl ⟨rfl, rfl⟩

theorem prop10_3 (s : ByteArray) (w : World) :
    Calls Try.prog 10 #[.int .i64 3, .string s] w fun e w' => e = .returned (.agg (Rec tBoo s none 0 none)) ∧ w' = w.alloc (.cells (Rec tBoo s none 0 none) 26) := by
  go_enter Try.func10, Try.ntmps10
  go_wp2
  exact bodyPost_ret (v := .agg (Rec tBoo s none 0 none)) (by simp [results, Try.results10, go_sem]) rfl ⟨rfl, rfl⟩

theorem prop6_other (k : Int) (s : ByteArray) (h1 : (k == 1) = false) (h2 : (k == 2) = false) (h3 : (k == 3) = false) (w : World) :
    Calls Try.prog 6 #[.int .i64 k, .string s] w fun e w' => e = .returned (.agg (Rec tStr s none 0 none)) ∧ w' = (w.alloc (.cells (Rec tStr s none 0 none) 26)).alloc (.cells (Rec tStr s none 0 none) 26) := by
  go_enter Try.func6, Try.ntmps6
  go_wp2_with fail
  refine (prop10_other k s h1 h2 h3 _).mono ?_
  rintro e w' ⟨rfl, rfl⟩
  go_wp2
  exact bodyPost_ret (v := .agg (Rec tStr s none 0 none)) (by simp [results, Try.results6, go_sem]) rfl ⟨rfl, rfl⟩

theorem prop6_1 (s : ByteArray) (w : World) :
    Calls Try.prog 6 #[.int .i64 1, .string s] w fun e w' => e = .returned (.agg (Rec tArr s (some { block := w.heap.size + 2, off := 0 }) 1 none)) ∧ w' = ((w.alloc (.cells (Rec tArr s (some { block := w.heap.size + 2, off := 0 }) 1 none) 26)).alloc (.cells (Rec tArr s (some { block := w.heap.size + 2, off := 0 }) 1 none) 26)).alloc (.cells (Rec tStr { data := #[] } none 0 none) 26) := by
  go_enter Try.func6, Try.ntmps6
  go_wp2_with fail
  refine (prop10_1 s _).mono ?_
  rintro e w' ⟨rfl, rfl⟩
  go_wp2
  exact bodyPost_ret (v := .agg (Rec tArr s (some { block := w.heap.size + 2, off := 0 }) 1 none)) (by simp [results, Try.results6, go_sem]) rfl ⟨rfl, rfl⟩

theorem prop6_2 (s : ByteArray) (w : World) :
    Calls Try.prog 6 #[.int .i64 2, .string s] w fun e w' => e = .returned (.agg (Rec tInt s none 0 (some { block := w.heap.size + 2, off := 0 }))) ∧ w' = ((w.alloc (.cells (Rec tInt s none 0 (some { block := w.heap.size + 2, off := 0 })) 26)).alloc (.cells (Rec tInt s none 0 (some { block := w.heap.size + 2, off := 0 })) 26)).alloc (.cells #[.int .i64 0] 3) := by
  go_enter Try.func6, Try.ntmps6
  go_wp2_with fail
  refine (prop10_2 s _).mono ?_
  rintro e w' ⟨rfl, rfl⟩
  go_wp2
  exact bodyPost_ret (v := .agg (Rec tInt s none 0 (some { block := w.heap.size + 2, off := 0 }))) (by simp [results, Try.results6, go_sem]) rfl ⟨rfl, rfl⟩

theorem prop6_3 (s : ByteArray) (w : World) :
    Calls Try.prog 6 #[.int .i64 3, .string s] w fun e w' => e = .returned (.agg (Rec tBoo s none 0 none)) ∧ w' = (w.alloc (.cells (Rec tBoo s none 0 none) 26)).alloc (.cells (Rec tBoo s none 0 none) 26) := by
  go_enter Try.func6, Try.ntmps6
  go_wp2_with fail
  refine (prop10_3 s _).mono ?_
  rintro e w' ⟨rfl, rfl⟩
  go_wp2
  exact bodyPost_ret (v := .agg (Rec tBoo s none 0 none)) (by simp [results, Try.results6, go_sem]) rfl ⟨rfl, rfl⟩


theorem same7 (s : ByteArray) (w : World) :
    Calls Try.prog 7 #[.agg (Rec tStr s none 0 none), .agg (Rec tStr s none 0 none)] w fun e w' => e = .returned (.bool true) ∧ ∃ n, w' = ((w.alloc (.cells (Rec tStr s none 0 none) 26)).alloc (.cells (Rec tStr s none 0 none) 26)).drewN n := by
  go_enter Try.func7, Try.ntmps7
  go_wp2_with fail
  go_quiet (fail)
  go_wp2
  go_ret
  exact ⟨rfl, nq, rfl⟩

theorem kind9_str (w : World) : Calls Try.prog 9 #[.string tStr] w fun e w' => e = .returned (.int .i64 0) ∧ w' = w := by
  go_enter Try.func9, Try.ntmps9
  go_wp2
  go_ret
  exact ⟨rfl, rfl⟩
theorem kind9_arr (w : World) : Calls Try.prog 9 #[.string tArr] w fun e w' => e = .returned (.int .i64 1) ∧ w' = w := by
  go_enter Try.func9, Try.ntmps9
  go_wp2
  go_ret
  exact ⟨rfl, rfl⟩
theorem kind9_int (w : World) : Calls Try.prog 9 #[.string tInt] w fun e w' => e = .returned (.int .i64 2) ∧ w' = w := by
  go_enter Try.func9, Try.ntmps9
  go_wp2
  go_ret
  exact ⟨rfl, rfl⟩
theorem kind9_boo (w : World) : Calls Try.prog 9 #[.string tBoo] w fun e w' => e = .returned (.int .i64 3) ∧ w' = w := by
  go_enter Try.func9, Try.ntmps9
  go_wp2
  go_ret
  exact ⟨rfl, rfl⟩
end Go.Proofs.Qxb6603279a
