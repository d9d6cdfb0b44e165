import Derived.Test.Qxb6603130aSmall7
namespace Go.Proofs.Qxb6603130a
open Go.RowKit

/-- Bit k of a word. -/
def bitZ (z : Int) (k : Nat) : Bool := z.toNat.testBit k

theorem shr_bit (z : Int) (k : Nat) (h0 : 0 ≤ z) (h1 : z < 18446744073709551616) : (bits .and .u64 (z / 2 ^ k) 1 == 1) = bitZ z k := by
  obtain ⟨n, rfl⟩ := Int.eq_ofNat_of_zero_le h0
  have e : ((n : Int) / 2 ^ k) = ((n / 2 ^ k : Nat) : Int) := by simp
  have hn : n / 2 ^ k ≤ n := Nat.div_le_self _ _
  rw [e, show (1 : Int) = ((1 : Nat) : Int) from rfl, u64_and_nat _ _ (by omega) (by omega), nat_mask1, bitZ, Int.toNat_natCast, Nat.testBit_eq_decide_div_mod_eq]
  rw [Bool.eq_iff_iff]
  simp
  omega

theorem wrap_u64 (n : Nat) (hn : n < 18446744073709551616) : IntKind.u64.wrap (n : Int) = (n : Int) := by
  show (n : Int) % 18446744073709551616 = n
  omega

theorem wrap_pow (k : Nat) (hk : k < 64) : IntKind.u64.wrap (2 ^ k) = ((2 ^ k : Nat) : Int) := by
  have h : 2 ^ k < 2 ^ 64 := Nat.pow_lt_pow_right (by omega) hk
  have e : (2 : Int) ^ k = ((2 ^ k : Nat) : Int) := by simp
  rw [e, wrap_u64 _ (by omega)]

theorem and_pow (n k : Nat) : n &&& 2 ^ k = if n.testBit k then 2 ^ k else 0 := by
  apply Nat.eq_of_testBit_eq
  intro i
  rw [Nat.testBit_and, Nat.testBit_two_pow]
  by_cases h : k = i
  · subst h
    cases n.testBit k <;> simp
  · cases hb : n.testBit k <;> simp [h]

theorem shl_bit (z : Int) (k : Nat) (hk : k < 64) (h0 : 0 ≤ z) (h1 : z < 18446744073709551616) : (bits .and .u64 z (IntKind.u64.wrap (2 ^ k)) != 0) = bitZ z k := by
  obtain ⟨n, rfl⟩ := Int.eq_ofNat_of_zero_le h0
  have h : 2 ^ k < 2 ^ 64 := Nat.pow_lt_pow_right (by omega) hk
  have hp : 0 < 2 ^ k := Nat.pow_pos (by omega)
  rw [wrap_pow k hk, u64_and_nat _ _ (by omega) (by omega), bitZ, Int.toNat_natCast, and_pow]
  cases n.testBit k
  · simp
  · simp only [if_true]
    rw [bne_iff_ne]
    omega

/-- The words of a set, as they lie. -/
def Words (zs : List Int) : Prop := ∀ z ∈ zs, 0 ≤ z ∧ z < 18446744073709551616

/-- Bit i of a set. -/
def bitOf (zs : List Int) (i : Nat) : Bool := bitZ (zs.getD (i / 64) 0) (i % 64)

set_option maxRecDepth 100000 in
set_option maxHeartbeats 400000 in
theorem bit18 (a : Option Addr) (c : Nat) (zs : List Int) (i : Nat) (w : World) (hz : Hid (Words zs)) (hl : zs.length ≤ 1048576) (hi : i < 64 * zs.length) (hk : Hid (Has w a (zs.map (.int .u64)))) :
    Calls Try.prog 18 #[.slice a zs.length c, .int .i64 i] w fun e w' => e = .returned (.bool (bitOf zs i)) ∧ w' = w := by
  have hlt : i / 64 < zs.length := by omega
  obtain ⟨b, off, rfl, hb, hcell⟩ := hk.out.at (k := i / 64) (x := .int .u64 (zs[i / 64]'hlt)) (by simp [hlt])
  obtain ⟨hw0, hw1⟩ := hz.out _ (List.getElem_mem hlt)
  have hbit := hid (shr_bit (zs[i / 64]'hlt) (i % 64) hw0 hw1)
  have hof := hid (show bitOf zs i = bitZ (zs[i / 64]'hlt) (i % 64) by simp [bitOf, hlt])
  clear hw0 hw1
  go_enter Try.func18, Try.ntmps18
  go_wp2
  go_ret
  rw [hof.out, ← hbit.out]
  exact ⟨rfl, rfl⟩

set_option maxRecDepth 100000 in
set_option maxHeartbeats 400000 in
theorem has49 (ia : Value) (a : Option Addr) (c : Nat) (zs : List Int) (i : Nat) (w : World) (hz : Hid (Words zs)) (hl : zs.length ≤ 1048576) (hi : i < 64 * zs.length) (hk : Hid (Has w a (zs.map (.int .u64)))) :
    Calls Try.prog 49 #[.agg #[ia, .slice a zs.length c], .int .i64 i] w fun e w' => e = .returned (.bool (bitOf zs i)) ∧ Below w.heap.size w w' := by
  have hlt : i / 64 < zs.length := by omega
  obtain ⟨b, off, rfl, hb, hcell⟩ := hk.out.at (k := i / 64) (x := .int .u64 (zs[i / 64]'hlt)) (by simp [hlt])
  obtain ⟨hw0, hw1⟩ := hz.out _ (List.getElem_mem hlt)
  have hbit := hid (shl_bit (zs[i / 64]'hlt) (i % 64) (Nat.mod_lt _ (by omega)) hw0 hw1)
  have hof := hid (show bitOf zs i = bitZ (zs[i / 64]'hlt) (i % 64) by simp [bitOf, hlt])
  clear hw0 hw1
  go_enter Try.func49, Try.ntmps49
  go_wp2
  go_quiet (fail)
  go_wp2
  go_ret
  rw [hof.out, ← hbit.out]
  exact ⟨rfl, ((Below.refl _ _).alloc (Nat.le_refl _) _).trans ⟨rfl, rfl, rfl, Nat.le_refl _, fun _ _ => rfl⟩⟩

end Go.Proofs.Qxb6603130a
