import Derived.Test.Qxb6603130aKit
namespace Go.Proofs.Qxb6603130a
open Go.RowKit

set_option maxHeartbeats 400000 in
theorem clone31_nil (w : World) : Calls Try.prog 31 #[.slice none 0 0] w fun e w' => e = .returned (.slice none 0 0) ∧ w' = w := by
  have qnil := fun (w : World) (a : Option Addr) (n c n' c' : Nat) => Lib.run_eql_slice_nil w 41 _ a n c n' c' Try.underlying41
  go_enter Try.func31, Try.ntmps31
  go_wp2
  go_ret
  exact ⟨rfl, rfl⟩

set_option maxHeartbeats 400000 in
set_option maxRecDepth 100000 in
theorem clone31_some (x : Addr) (c : Nat) (ss : List ByteArray) (w : World) (hl : ss.length ≤ 1048576) (hc : Hid (Has w (some x) (ss.map (Value.string)))) :
    Calls Try.prog 31 #[.slice (some x) ss.length c] w fun e w' => e = .returned (.slice (some ⟨w.heap.size, 0, none⟩) ss.length ss.length) ∧ w' = w.alloc (.cells (ss.map (Value.string)).toArray 9) := by
  have qnil := fun (w : World) (a : Option Addr) (n c n' c' : Nat) => Lib.run_eql_slice_nil w 41 _ a n c n' c' Try.underlying41
  have hmk := make_run 41 9 (.string ByteArray.empty) 16 Try.underlying41 Try.info9 rfl ss.length hl (by omega)
  go_enter Try.func31, Try.ntmps31
  go_wp2
  go_loopw [4] (fun i wr => ∃ k : Nat, k ≤ ss.length ∧ i = .int .i64 k ∧ wr = w.alloc (.cells (part (.string ByteArray.empty) (ss.map (Value.string)) k) 9)) (fun i _ => ss.length - (intOf i).toNat)
  case atStart => exact ⟨0, Nat.zero_le _, rfl, by rw [← part_zero]; simp⟩
  case round =>
    obtain ⟨k, hk, rfl, rfl⟩ := hrel
    by_cases hlt : k < ss.length
    · obtain ⟨b, off, hx, hb, hcell⟩ := hc.out k (by simpa using hlt)
      cases hx
      have hv : (ss.map (Value.string))[k]? = some (Value.string (ss[k]'hlt)) := by simp [hlt]
      rw [hv] at hcell
      have hsz := part_size (.string ByteArray.empty) (ss.map (Value.string)) k (by simpa using hk)
      have HV := part_set (.string ByteArray.empty) (ss.map (Value.string)) k _ (by simpa using hlt) hv
      have HV' : Hid _ := HV
      clear HV hv
      go_wp2
      exact ⟨⟨k + 1, by omega, by go_num, by rw [HV'.out]⟩, by simp [intOf]; omega⟩
    · go_wp2
      have : k = ss.length := by omega
      subst this
      go_ret
      refine ⟨rfl, ?_⟩
      have := part_end (.string ByteArray.empty) (ss.map (Value.string))
      simp at this
      rw [this]

set_option maxHeartbeats 400000 in
theorem clone33_nil (w : World) : Calls Try.prog 33 #[.slice none 0 0] w fun e w' => e = .returned (.slice none 0 0) ∧ w' = w := by
  have qnil := fun (w : World) (a : Option Addr) (n c n' c' : Nat) => Lib.run_eql_slice_nil w 43 _ a n c n' c' Try.underlying43
  go_enter Try.func33, Try.ntmps33
  go_wp2
  go_ret
  exact ⟨rfl, rfl⟩

set_option maxHeartbeats 400000 in
set_option maxRecDepth 100000 in
theorem clone33_some (x : Addr) (c : Nat) (ss : List Int) (w : World) (hl : ss.length ≤ 1048576) (hc : Hid (Has w (some x) (ss.map (Value.int .u8)))) :
    Calls Try.prog 33 #[.slice (some x) ss.length c] w fun e w' => e = .returned (.slice (some ⟨w.heap.size, 0, none⟩) ss.length ss.length) ∧ w' = w.alloc (.cells (ss.map (Value.int .u8)).toArray 5) := by
  have qnil := fun (w : World) (a : Option Addr) (n c n' c' : Nat) => Lib.run_eql_slice_nil w 43 _ a n c n' c' Try.underlying43
  have hmk := make_run 43 5 (.int .u8 0) 1 Try.underlying43 Try.info5 rfl ss.length hl (by omega)
  go_enter Try.func33, Try.ntmps33
  go_wp2
  go_loopw [4] (fun i wr => ∃ k : Nat, k ≤ ss.length ∧ i = .int .i64 k ∧ wr = w.alloc (.cells (part (.int .u8 0) (ss.map (Value.int .u8)) k) 5)) (fun i _ => ss.length - (intOf i).toNat)
  case atStart => exact ⟨0, Nat.zero_le _, rfl, by rw [← part_zero]; simp⟩
  case round =>
    obtain ⟨k, hk, rfl, rfl⟩ := hrel
    by_cases hlt : k < ss.length
    · obtain ⟨b, off, hx, hb, hcell⟩ := hc.out k (by simpa using hlt)
      cases hx
      have hv : (ss.map (Value.int .u8))[k]? = some (Value.int .u8 (ss[k]'hlt)) := by simp [hlt]
      rw [hv] at hcell
      have hsz := part_size (.int .u8 0) (ss.map (Value.int .u8)) k (by simpa using hk)
      have HV := part_set (.int .u8 0) (ss.map (Value.int .u8)) k _ (by simpa using hlt) hv
      have HV' : Hid _ := HV
      clear HV hv
      go_wp2
      exact ⟨⟨k + 1, by omega, by go_num, by rw [HV'.out]⟩, by simp [intOf]; omega⟩
    · go_wp2
      have : k = ss.length := by omega
      subst this
      go_ret
      refine ⟨rfl, ?_⟩
      have := part_end (.int .u8 0) (ss.map (Value.int .u8))
      simp at this
      rw [this]

set_option maxHeartbeats 400000 in
theorem clone23_nil (w : World) : Calls Try.prog 23 #[.slice none 0 0] w fun e w' => e = .returned (.slice none 0 0) ∧ w' = w := by
  have qnil := fun (w : World) (a : Option Addr) (n c n' c' : Nat) => Lib.run_eql_slice_nil w 28 _ a n c n' c' Try.underlying28
  go_enter Try.func23, Try.ntmps23
  go_wp2
  go_ret
  exact ⟨rfl, rfl⟩

set_option maxHeartbeats 400000 in
set_option maxRecDepth 100000 in
theorem clone23_some (x : Addr) (c : Nat) (ss : List Int) (w : World) (hl : ss.length ≤ 1048576) (hc : Hid (Has w (some x) (ss.map (Value.int .i64)))) :
    Calls Try.prog 23 #[.slice (some x) ss.length c] w fun e w' => e = .returned (.slice (some ⟨w.heap.size, 0, none⟩) ss.length ss.length) ∧ w' = w.alloc (.cells (ss.map (Value.int .i64)).toArray 3) := by
  have qnil := fun (w : World) (a : Option Addr) (n c n' c' : Nat) => Lib.run_eql_slice_nil w 28 _ a n c n' c' Try.underlying28
  have hmk := make_run 28 3 (.int .i64 0) 8 Try.underlying28 Try.info3 rfl ss.length hl (by omega)
  go_enter Try.func23, Try.ntmps23
  go_wp2
  go_loopw [4] (fun i wr => ∃ k : Nat, k ≤ ss.length ∧ i = .int .i64 k ∧ wr = w.alloc (.cells (part (.int .i64 0) (ss.map (Value.int .i64)) k) 3)) (fun i _ => ss.length - (intOf i).toNat)
  case atStart => exact ⟨0, Nat.zero_le _, rfl, by rw [← part_zero]; simp⟩
  case round =>
    obtain ⟨k, hk, rfl, rfl⟩ := hrel
    by_cases hlt : k < ss.length
    · obtain ⟨b, off, hx, hb, hcell⟩ := hc.out k (by simpa using hlt)
      cases hx
      have hv : (ss.map (Value.int .i64))[k]? = some (Value.int .i64 (ss[k]'hlt)) := by simp [hlt]
      rw [hv] at hcell
      have hsz := part_size (.int .i64 0) (ss.map (Value.int .i64)) k (by simpa using hk)
      have HV := part_set (.int .i64 0) (ss.map (Value.int .i64)) k _ (by simpa using hlt) hv
      have HV' : Hid _ := HV
      clear HV hv
      go_wp2
      exact ⟨⟨k + 1, by omega, by go_num, by rw [HV'.out]⟩, by simp [intOf]; omega⟩
    · go_wp2
      have : k = ss.length := by omega
      subst this
      go_ret
      refine ⟨rfl, ?_⟩
      have := part_end (.int .i64 0) (ss.map (Value.int .i64))
      simp at this
      rw [this]

set_option maxHeartbeats 400000 in
theorem clone24_nil (w : World) : Calls Try.prog 24 #[.slice none 0 0] w fun e w' => e = .returned (.slice none 0 0) ∧ w' = w := by
  have qnil := fun (w : World) (a : Option Addr) (n c n' c' : Nat) => Lib.run_eql_slice_nil w 29 _ a n c n' c' Try.underlying29
  go_enter Try.func24, Try.ntmps24
  go_wp2
  go_ret
  exact ⟨rfl, rfl⟩

set_option maxHeartbeats 400000 in
set_option maxRecDepth 100000 in
theorem clone24_some (x : Addr) (c : Nat) (ss : List Int) (w : World) (hl : ss.length ≤ 1048576) (hc : Hid (Has w (some x) (ss.map (Value.int .u64)))) :
    Calls Try.prog 24 #[.slice (some x) ss.length c] w fun e w' => e = .returned (.slice (some ⟨w.heap.size, 0, none⟩) ss.length ss.length) ∧ w' = w.alloc (.cells (ss.map (Value.int .u64)).toArray 62) := by
  have qnil := fun (w : World) (a : Option Addr) (n c n' c' : Nat) => Lib.run_eql_slice_nil w 29 _ a n c n' c' Try.underlying29
  have hmk := make_run 29 62 (.int .u64 0) 8 Try.underlying29 Try.info62 rfl ss.length hl (by omega)
  go_enter Try.func24, Try.ntmps24
  go_wp2
  go_loopw [4] (fun i wr => ∃ k : Nat, k ≤ ss.length ∧ i = .int .i64 k ∧ wr = w.alloc (.cells (part (.int .u64 0) (ss.map (Value.int .u64)) k) 62)) (fun i _ => ss.length - (intOf i).toNat)
  case atStart => exact ⟨0, Nat.zero_le _, rfl, by rw [← part_zero]; simp⟩
  case round =>
    obtain ⟨k, hk, rfl, rfl⟩ := hrel
    by_cases hlt : k < ss.length
    · obtain ⟨b, off, hx, hb, hcell⟩ := hc.out k (by simpa using hlt)
      cases hx
      have hv : (ss.map (Value.int .u64))[k]? = some (Value.int .u64 (ss[k]'hlt)) := by simp [hlt]
      rw [hv] at hcell
      have hsz := part_size (.int .u64 0) (ss.map (Value.int .u64)) k (by simpa using hk)
      have HV := part_set (.int .u64 0) (ss.map (Value.int .u64)) k _ (by simpa using hlt) hv
      have HV' : Hid _ := HV
      clear HV hv
      go_wp2
      exact ⟨⟨k + 1, by omega, by go_num, by rw [HV'.out]⟩, by simp [intOf]; omega⟩
    · go_wp2
      have : k = ss.length := by omega
      subst this
      go_ret
      refine ⟨rfl, ?_⟩
      have := part_end (.int .u64 0) (ss.map (Value.int .u64))
      simp at this
      rw [this]

end Go.Proofs.Qxb6603130a
