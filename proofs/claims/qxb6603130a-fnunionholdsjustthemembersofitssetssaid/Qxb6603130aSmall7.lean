import Derived.Test.Qxb6603130aPlain2
import Derived.Deep.QuietTactic
import Derived.BigQuiet
namespace Go.Proofs.Qxb6603130a
open Go.RowKit

set_option maxRecDepth 100000 in
set_option maxHeartbeats 400000 in
theorem has35 (s p : ByteArray) (w : World) (b : Bool) (hb : begins s p = b) : Calls Try.prog 35 #[.string s, .string p] w fun e w' => e = .returned (.bool b) ∧ w' = w := by
  subst hb
  unfold begins
  by_cases h : p.size ≤ s.size
  · have hd : decide (p.size ≤ s.size) = true := by simpa using h
    rw [hd, Bool.true_and]
    go_enter Try.func35, Try.ntmps35
    go_wp2
    go_ret
    exact ⟨rfl, rfl⟩
  · have hd : decide (p.size ≤ s.size) = false := by simpa using h
    rw [hd, Bool.false_and]
    go_enter Try.func35, Try.ntmps35
    go_wp2
    go_ret
    exact ⟨rfl, rfl⟩

theorem toList_ne {s k : ByteArray} (h : s ≠ k) : (s.toList == k.toList) = false := by
  rw [beq_eq_false_iff_ne]
  intro q
  rw [Lib.toList_data, Lib.toList_data] at q
  exact h (toList_inj' q)

theorem inKeys_false {ks : List ByteArray} {s : ByteArray} (h : ∀ j k, j < ks.length → ks[j]? = some k → k ≠ s) : inKeys ks s = false := by
  unfold inKeys
  rw [List.any_eq_false]
  intro k hk
  obtain ⟨j, hj, rfl⟩ := List.getElem_of_mem hk
  simpa using h j _ hj (by simp [hj])

set_option maxRecDepth 100000 in
set_option maxHeartbeats 400000 in
theorem member36 (a : Option Addr) (c : Nat) (ks : List ByteArray) (s : ByteArray) (w : World) (hl : ks.length ≤ 1048576) (hk : Hid (Has w a (ks.map .string))) :
    Calls Try.prog 36 #[.slice a ks.length c, .string s] w fun e w' => e = .returned (.bool (inKeys ks s)) ∧ w' = w := by
  go_enter Try.func36, Try.ntmps36
  go_wp2
  go_loop [5] (fun i => ∃ k : Nat, k ≤ ks.length ∧ i = .int .i64 k ∧ Hid (∀ j x, j < k → ks[j]? = some x → x ≠ s)) (fun i => ks.length - (intOf i).toNat)
  case atStart => exact ⟨0, Nat.zero_le _, rfl, fun j x hj => by omega⟩
  case round =>
    obtain ⟨k, hk1, rfl, hup⟩ := hrel
    by_cases hlt : k < ks.length
    · obtain ⟨x, hx⟩ : ∃ s, ks[k]? = some s := ⟨_, List.getElem?_eq_getElem hlt⟩
      obtain ⟨b, off, rfl, hb, hcell⟩ := hk.out.at (k := k) (x := .string x) (by simp [hx])
      have HX := hid hx
      clear hx
      by_cases he : x = s
      · subst he
        have hin := hid (inKeys_mem (List.mem_of_getElem? HX.out))
        go_wp2
        go_ret
        rw [hin.out]
        exact ⟨rfl, rfl⟩
      · have hne := toList_ne he
        have HE := hid he
        clear he
        go_wp2
        exact ⟨⟨k + 1, by omega, by go_num, upto_succ hup.out HX.out HE.out⟩, by simp [intOf]; omega⟩
    · have hin := hid (inKeys_false (fun j k' hj => hup.out j k' (by omega)))
      go_wp2
      go_ret
      rw [hin.out]
      exact ⟨rfl, rfl⟩

set_option maxRecDepth 100000 in
set_option maxHeartbeats 400000 in
theorem bytesAre37 (a : Option Addr) (c : Nat) (s : ByteArray) (w : World) (hl : s.size ≤ 4194304) (hk : Hid (Has w a (Lib.strCells s))) :
    Calls Try.prog 37 #[.slice a s.size c, .string s] w fun e w' => e = .returned (.bool true) ∧ ∃ n, w' = w.drewN n := by
  go_enter Try.func37, Try.ntmps37
  go_wp2
  go_loopw [5] (fun i wr => ∃ (k n : Nat), k ≤ s.size ∧ i = .int .i64 k ∧ wr = w.drewN n) (fun i _ => s.size - (intOf i).toNat)
  case atStart => exact ⟨0, 0, Nat.zero_le _, rfl, rfl⟩
  case round =>
    obtain ⟨k, n, hk1, rfl, rfl⟩ := hrel
    by_cases hlt : k < s.size
    · obtain ⟨b, off, rfl, hb, hcell⟩ := hk.out.at (k := k) (x := .int .u8 (s[k]'hlt).toNat) (by simp [Lib.strCells]; exact ⟨_, Array.getElem?_eq_getElem hlt, rfl⟩)
      have hi0 : (0 : Int) ≤ (k : Int) := by omega
      have hi1 : (k : Int) < (s.size : Int) := by omega
      go_wp2
      go_quiet (fail)
      go_wp2
      exact ⟨⟨k + 1, n + nq, by omega, by go_num, by simp⟩, by simp [intOf]; omega⟩
    · go_wp2
      go_ret
      exact ⟨rfl, n, rfl⟩

set_option maxRecDepth 100000 in
set_option maxHeartbeats 400000 in
theorem eqBytes38 (a : Option Addr) (c : Nat) (a2 : Option Addr) (c2 : Nat) (bs : List Int) (w : World) (hl : bs.length ≤ 4194304) (hk : Hid (Has w a (bs.map (.int .u8)))) (hk2 : Hid (Has w a2 (bs.map (.int .u8)))) :
    Calls Try.prog 38 #[.slice a bs.length c, .slice a2 bs.length c2] w fun e w' => e = .returned (.bool true) ∧ ∃ n, w' = w.drewN n := by
  go_enter Try.func38, Try.ntmps38
  go_wp2
  go_loopw [5] (fun i wr => ∃ (k n : Nat), k ≤ bs.length ∧ i = .int .i64 k ∧ wr = w.drewN n) (fun i _ => bs.length - (intOf i).toNat)
  case atStart => exact ⟨0, 0, Nat.zero_le _, rfl, rfl⟩
  case round =>
    obtain ⟨k, n, hk1, rfl, rfl⟩ := hrel
    by_cases hlt : k < bs.length
    · obtain ⟨b, off, rfl, hb, hcell⟩ := hk.out.at (k := k) (x := .int .u8 (bs[k]'hlt)) (by simp [hlt])
      obtain ⟨b2, off2, rfl, hb2, hcell2⟩ := hk2.out.at (k := k) (x := .int .u8 (bs[k]'hlt)) (by simp [hlt])
      have hi0 : (0 : Int) ≤ (k : Int) := by omega
      have hi1 : (k : Int) < (bs.length : Int) := by omega
      go_wp2
      go_quiet (fail)
      go_wp2
      exact ⟨⟨k + 1, n + nq, by omega, by go_num, by simp⟩, by simp [intOf]; omega⟩
    · go_wp2
      go_ret
      exact ⟨rfl, n, rfl⟩
end Go.Proofs.Qxb6603130a
