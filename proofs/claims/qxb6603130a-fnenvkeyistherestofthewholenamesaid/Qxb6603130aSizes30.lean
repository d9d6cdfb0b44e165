import Derived.Test.Qxb6603130aSizes
namespace Go.Proofs.Qxb6603130a
open Go.RowKit

set_option maxHeartbeats 1000000 in
set_option maxRecDepth 100000 in
theorem size30 (p nm : ByteArray) (ka : Option Addr) (kc : Nat) (ks : List ByteArray) (va : Option Addr) (vc : Nat) (vs : List (Option Addr × Nat × List ByteArray)) (pre nam : ByteArray) (bn : Nat) (w : World)
    (hsm : Hid (Small p nm ks vs bn)) (hpre : pre.size ≤ 1048576) (hnam : nam.size ≤ 1048576) (hk : Hid (KeyArgs w ka va ks vs)) :
    Calls Try.prog 30 #[.string p, .string nm, .slice ka ks.length kc, .slice va vs.length vc, .string pre, .string nam, .int .i64 bn] w (Guards w True) := by
  have h1 := hsm.out.hp
  have h2 := hsm.out.hnm
  have h3 := hsm.out.hks
  have h4 := hsm.out.hvs
  have h5 := hsm.out.hn
  by_cases h6 : ks.length ≤ 131072
  · by_cases h7 : vs.length ≤ 131072
    · go_enter Try.func30, Try.ntmps30
      go_wp2
      all_goals try (go_ret; exact .inl ⟨rfl, rfl⟩)
      go_loop [15, 16] (fun z i => ∃ (k : Nat) (m : Int), k ≤ ks.length ∧ 0 ≤ m ∧ m ≤ 1048576 ∧ i = .int .i64 k ∧ z = .int .i64 m) (fun _ i => ks.length - (intOf i).toNat)
      case atStart => exact ⟨0, _, Nat.zero_le _, by omega, by omega, rfl, rfl⟩
      case round =>
        obtain ⟨k, m, hk1, hm0, hm1, rfl, rfl⟩ := hrel
        by_cases hlt : k < ks.length
        · obtain ⟨s, hs⟩ : ∃ s, ks[k]? = some s := ⟨_, List.getElem?_eq_getElem hlt⟩
          obtain ⟨b, off, rfl, hb, hcell⟩ := (KeyArgs.keys hk.out).at (k := k) (x := .string s) (by simp [hs])
          have hsz := hsm.out.hk s (List.mem_of_getElem? hs)
          clear hs
          go_wp2
          all_goals try (go_ret; exact .inl ⟨rfl, rfl⟩)
          exact ⟨⟨k + 1, _, by omega, by omega, by assumption, by go_num, rfl⟩, by simp [intOf]; omega⟩
        · go_wp2
          all_goals try (go_ret; exact .inl ⟨rfl, rfl⟩)
          go_loop [15, 17] (fun z i => ∃ (k : Nat) (m : Int), k ≤ vs.length ∧ 0 ≤ m ∧ m ≤ 1048576 ∧ i = .int .i64 k ∧ z = .int .i64 m) (fun _ i => vs.length - (intOf i).toNat)
          case atStart => exact ⟨0, _, Nat.zero_le _, by omega, by omega, rfl, rfl⟩
          case round =>
            clear hm0 hm1
            obtain ⟨k, m, hk1, hm0, hm1, rfl, rfl⟩ := hrel
            by_cases hlt : k < vs.length
            · obtain ⟨⟨xa, xc, xs⟩, hs⟩ : ∃ s, vs[k]? = some s := ⟨_, List.getElem?_eq_getElem hlt⟩
              obtain ⟨b, off, rfl, hb, hcell⟩ := (KeyArgs.vals hk.out).at (k := k) (x := .slice xa xs.length xc) (by simp [hs, sv])
              have hx : Hid (Has w xa (xs.map .string)) := KeyArgs.each hk.out _ (List.mem_of_getElem? hs)
              obtain ⟨hxl, hxs⟩ := hsm.out.hv _ (List.mem_of_getElem? hs)
              have hxs' : Hid _ := hxs
              simp only at hxl
              clear hs hxs
              go_wp2
              all_goals try (go_ret; exact .inl ⟨rfl, rfl⟩)
              go_loop [15, 18] (fun z i => ∃ (j : Nat) (m : Int), j ≤ xs.length ∧ 0 ≤ m ∧ m ≤ 1048576 ∧ i = .int .i64 j ∧ z = .int .i64 m) (fun _ i => xs.length - (intOf i).toNat)
              case atStart => exact ⟨0, _, Nat.zero_le _, by omega, by omega, rfl, rfl⟩
              case round =>
                clear hm0 hm1
                obtain ⟨j, m, hj1, hm0, hm1, rfl, rfl⟩ := hrel
                by_cases hjt : j < xs.length
                · obtain ⟨s, hs⟩ : ∃ s, xs[j]? = some s := ⟨_, List.getElem?_eq_getElem hjt⟩
                  obtain ⟨b2, off2, rfl, hb2, hcell2⟩ := hx.out.at (k := j) (x := .string s) (by simp [hs])
                  have hsz := hxs'.out s (List.mem_of_getElem? hs)
                  clear hs
                  go_wp2
                  all_goals try (go_ret; exact .inl ⟨rfl, rfl⟩)
                  exact ⟨⟨j + 1, _, by omega, by omega, by assumption, by go_num, rfl⟩, by simp [intOf]; omega⟩
                · go_wp2
                  exact ⟨⟨k + 1, _, by omega, hm0, hm1, by go_num, rfl⟩, by simp [intOf]; omega⟩
            · go_wp2
              all_goals try (go_ret; exact .inl ⟨rfl, rfl⟩)
              go_ret
              exact .inr ⟨rfl, rfl, trivial⟩
    · go_enter Try.func30, Try.ntmps30
      go_wp2
      go_ret; exact .inl ⟨rfl, rfl⟩
  · go_enter Try.func30, Try.ntmps30
    go_wp2
    go_ret; exact .inl ⟨rfl, rfl⟩
end Go.Proofs.Qxb6603130a
