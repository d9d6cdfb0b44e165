import Derived.Test.Qxb6603130aKit
namespace Go.Proofs.Qxb6603130a
open Go.RowKit

/-- A slice of strings: where it lies, its capacity, its elements. -/
def sv (x : Option Addr × Nat × List ByteArray) : Value := .slice x.1 x.2.2.length x.2.1

structure KeyArgs (w : World) (ka va : Option Addr) (ks : List ByteArray) (vs : List (Option Addr × Nat × List ByteArray)) : Prop where
  keys : Has w ka (ks.map .string)
  vals : Has w va (vs.map sv)
  each : ∀ x ∈ vs, Has w x.1 (x.2.2.map .string)

structure Small (p nm : ByteArray) (ks : List ByteArray) (vs : List (Option Addr × Nat × List ByteArray)) (n : Nat) : Prop where
  hp : p.size ≤ 1048576
  hnm : nm.size ≤ 1048576
  hks : ks.length ≤ 1048576
  hk : ∀ s ∈ ks, s.size ≤ 1048576
  hvs : vs.length ≤ 1048576
  hv : ∀ x ∈ vs, x.2.2.length ≤ 1048576 ∧ ∀ s ∈ x.2.2, s.size ≤ 1048576
  hn : n ≤ 1048576

/-- A guard's answer: no, or yes and S holds; the world as it was. -/
def Guards (w : World) (S : Prop) (e : Ending) (w' : World) : Prop := (e = .returned (.bool false) ∧ w' = w) ∨ (e = .returned (.bool true) ∧ w' = w ∧ S)

/-- The walk's facts of one element of a slice. -/
theorem Has.at {w : World} {a : Option Addr} {xs : List Value} (h : Has w a xs) {k : Nat} {x : Value} (hx : xs[k]? = some x) : ∃ b off, a = some ⟨b, off, none⟩ ∧ b < w.heap.size ∧ w.cell? ⟨b, off + k, none⟩ = some x := by
  obtain ⟨hk, _⟩ := List.getElem?_eq_some_iff.1 hx
  obtain ⟨b, off, e, hb, hc⟩ := h k hk
  exact ⟨b, off, e, hb, hc.trans hx⟩

theorem upto_succ {α : Type} {l : List α} {k : Nat} {x : α} {P : α → Prop} (h : ∀ j s, j < k → l[j]? = some s → P s) (hx : l[k]? = some x) (hp : P x) : ∀ j s, j < k + 1 → l[j]? = some s → P s := by
  intro j s hj hs
  by_cases e : j = k
  · subst e; rw [hx] at hs; cases hs; exact hp
  · exact h j s (by omega) hs

theorem upto_all {α : Type} {l : List α} {P : α → Prop} (h : ∀ j s, j < l.length → l[j]? = some s → P s) : ∀ s ∈ l, P s := by
  intro s hs
  obtain ⟨j, hj, rfl⟩ := List.getElem_of_mem hs
  exact h j _ hj (by simp [hj])

set_option maxHeartbeats 1000000 in
set_option maxRecDepth 100000 in
theorem bytes39 (p nm : ByteArray) (ka : Option Addr) (kc : Nat) (ks : List ByteArray) (va : Option Addr) (vc : Nat) (vs : List (Option Addr × Nat × List ByteArray)) (x y : Int) (ba : Option Addr) (bn bc : Nat) (w : World)
    (h1 : p.size ≤ maxLen) (h2 : nm.size ≤ maxLen) (h3 : ks.length ≤ maxLen) (h4 : vs.length ≤ maxLen) (h5 : bn ≤ maxLen) (h6 : Hid (∀ s ∈ ks, s.size ≤ maxLen)) (h7 : Hid (∀ x ∈ vs, x.2.2.length ≤ maxLen ∧ ∀ s ∈ x.2.2, s.size ≤ maxLen))
    (hk : Hid (KeyArgs w ka va ks vs)) :
    Calls Try.prog 39 #[.string p, .string nm, .slice ka ks.length kc, .slice va vs.length vc, .int .i64 x, .int .i64 y, .slice ba bn bc] w (Guards w (Small p nm ks vs bn)) := by
  unfold maxLen at h1 h2 h3 h4 h5
  go_enter Try.func39, Try.ntmps39
  go_wp2
  all_goals try (go_ret; exact .inl ⟨rfl, rfl⟩)
  go_loop [15, 16] (fun z i => ∃ (k : Nat) (m : Int), k ≤ ks.length ∧ 0 ≤ m ∧ m ≤ 1048576 ∧ i = .int .i64 k ∧ z = .int .i64 m ∧ Hid (∀ j s, j < k → ks[j]? = some s → s.size ≤ 1048576)) (fun _ i => ks.length - (intOf i).toNat)
  case atStart => exact ⟨0, _, Nat.zero_le _, by omega, by omega, rfl, rfl, fun j s hj => by omega⟩
  case round =>
    obtain ⟨k, m, hk1, hm0, hm1, rfl, rfl, hup⟩ := hrel
    by_cases hlt : k < ks.length
    · obtain ⟨s, hs⟩ : ∃ s, ks[k]? = some s := ⟨_, List.getElem?_eq_getElem hlt⟩
      obtain ⟨b, off, rfl, hb, hcell⟩ := (KeyArgs.keys hk.out).at (k := k) (x := .string s) (by simp [hs])
      have hsm := h6.out s (List.mem_of_getElem? hs)
      unfold maxLen at hsm
      have HS : Hid (ks[k]? = some s) := hs
      clear hs
      go_wp2
      all_goals try (go_ret; exact .inl ⟨rfl, rfl⟩)
      exact ⟨⟨k + 1, _, by omega, by omega, by assumption, by go_num, rfl, upto_succ hup.out HS.out (by omega)⟩, by simp [intOf]; omega⟩
    · have hks : Hid (∀ s ∈ ks, s.size ≤ 1048576) := upto_all (fun j s hj => hup.out j s (by omega))
      go_wp2
      all_goals try (go_ret; exact .inl ⟨rfl, rfl⟩)
      go_loop [15, 17] (fun z i => ∃ (k : Nat) (m : Int), k ≤ vs.length ∧ 0 ≤ m ∧ m ≤ 1048576 ∧ i = .int .i64 k ∧ z = .int .i64 m ∧ Hid (∀ j s, j < k → vs[j]? = some s → s.2.2.length ≤ 1048576 ∧ ∀ t ∈ s.2.2, t.size ≤ 1048576)) (fun _ i => vs.length - (intOf i).toNat)
      case atStart => exact ⟨0, _, Nat.zero_le _, by omega, by omega, rfl, rfl, fun j s hj => by omega⟩
      case round =>
        clear hup hm0 hm1
        obtain ⟨k, m, hk1, hm0, hm1, rfl, rfl, hup⟩ := hrel
        by_cases hlt : k < vs.length
        · obtain ⟨⟨xa, xc, xs⟩, hs⟩ : ∃ s, vs[k]? = some s := ⟨_, List.getElem?_eq_getElem hlt⟩
          obtain ⟨b, off, rfl, hb, hcell⟩ := (KeyArgs.vals hk.out).at (k := k) (x := .slice xa xs.length xc) (by simp [hs, sv])
          have hx : Hid (Has w xa (xs.map .string)) := KeyArgs.each hk.out _ (List.mem_of_getElem? hs)
          obtain ⟨hxl, hxs⟩ := h7.out _ (List.mem_of_getElem? hs)
          have hxs' : Hid _ := hxs
          unfold maxLen at hxl
          simp only at hxl
          have HS : Hid _ := hs
          clear hs hxs
          go_wp2
          all_goals try (go_ret; exact .inl ⟨rfl, rfl⟩)
          go_loop [15, 18] (fun z i => ∃ (j : Nat) (m : Int), j ≤ xs.length ∧ 0 ≤ m ∧ m ≤ 1048576 ∧ i = .int .i64 j ∧ z = .int .i64 m ∧ Hid (∀ l s, l < j → xs[l]? = some s → s.size ≤ 1048576)) (fun _ i => xs.length - (intOf i).toNat)
          case atStart => exact ⟨0, _, Nat.zero_le _, by omega, by omega, rfl, rfl, fun j s hj => by omega⟩
          case round =>
            clear hm0 hm1
            obtain ⟨j, m, hj1, hm0, hm1, rfl, rfl, hin⟩ := hrel
            by_cases hjt : j < xs.length
            · obtain ⟨s, hs⟩ : ∃ s, xs[j]? = some s := ⟨_, List.getElem?_eq_getElem hjt⟩
              obtain ⟨b2, off2, rfl, hb2, hcell2⟩ := hx.out.at (k := j) (x := .string s) (by simp [hs])
              have hsm := hxs'.out s (List.mem_of_getElem? hs)
              unfold maxLen at hsm
              have HT : Hid (xs[j]? = some s) := hs
              clear hs
              go_wp2
              all_goals try (go_ret; exact .inl ⟨rfl, rfl⟩)
              exact ⟨⟨j + 1, _, by omega, by omega, by assumption, by go_num, rfl, upto_succ hin.out HT.out (by omega)⟩, by simp [intOf]; omega⟩
            · go_wp2
              exact ⟨⟨k + 1, _, by omega, hm0, hm1, by go_num, rfl, upto_succ hup.out HS.out ⟨by show xs.length ≤ _; omega, upto_all (fun l s hl => hin.out l s (by have : l < xs.length := hl; omega))⟩⟩, by simp [intOf]; omega⟩
        · have hvs : Hid (∀ s ∈ vs, s.2.2.length ≤ 1048576 ∧ ∀ t ∈ s.2.2, t.size ≤ 1048576) := upto_all (fun j s hj => hup.out j s (by omega))
          go_wp2
          all_goals try (go_ret; exact .inl ⟨rfl, rfl⟩)
          go_ret
          exact .inr ⟨rfl, rfl, ⟨by omega, by omega, by omega, hks.out, by omega, hvs.out, by omega⟩⟩
end Go.Proofs.Qxb6603130a
