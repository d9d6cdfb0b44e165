import Derived.Test.Qxb6603130aPlain1
import Derived.Test.Qxb6603130aList
import Derived.Test.Qxb6603130aSizes30
import Derived.Deep.RegionWith
namespace Go.Proofs.Qxb6603130a
open Go.RowKit Go.Maps Go.WideMaps

/-- All that the law's arguments are, in the world of the call. -/
structure EnvArgs (w : World) (p nm : ByteArray) (ka : Option Addr) (kc : Nat) (ks : List ByteArray) (va : Option Addr) (vc : Nat) (vs : List (Option Addr × Nat × List ByteArray)) (ba : Option Addr) (bc : Nat) (bs : List Int) : Prop where
  hp : p.size ≤ maxLen
  hnm : nm.size ≤ maxLen
  hks : ks.length ≤ maxLen
  hvs : vs.length ≤ maxLen
  hbs : bs.length ≤ maxLen
  hk : ∀ s ∈ ks, s.size ≤ maxLen
  hv : ∀ x ∈ vs, x.2.2.length ≤ maxLen ∧ ∀ s ∈ x.2.2, s.size ≤ maxLen
  args : KeyArgs w ka va ks vs
  bytes : Has w ba (bs.map (.int .u8))
  knil : ka = none → kc = 0 ∧ ks = []
  vnil : va = none → vc = 0 ∧ vs = []
  bnil : ba = none → bc = 0 ∧ bs = []
  each : ∀ x ∈ vs, NilOk x

theorem KeyArgs.below {w w' : World} {ka va : Option Addr} {ks : List ByteArray} {vs : List (Option Addr × Nat × List ByteArray)} (h : KeyArgs w ka va ks vs) (hb : Below w.heap.size w w') : KeyArgs w' ka va ks vs :=
  ⟨h.keys.below hb, h.vals.below hb, fun x hx => (h.each x hx).below hb⟩

theorem box_below (w : World) (o : Obj) : Below w.heap.size w (w.alloc o) := (Below.refl _ _).alloc (Nat.le_refl _) _

/-- What is known where the law calls its door. -/
structure AtDoor (w W : World) (ks : List ByteArray) (g : Nat) (bv : Value) : Prop where
  below : Below w.heap.size w W
  keys : Has W (some ⟨w.heap.size + 1, 0, none⟩) (ks.map .string)
  vals : ∀ j, j < ks.length → ∃ b off a l c, some (⟨g, 0, none⟩ : Addr) = some ⟨b, off, none⟩ ∧ b < W.heap.size ∧ W.cell? ⟨b, off + j, none⟩ = some (.slice a l c)
  buf : BufIs W w.heap.size bv
  far : ∀ k, bv.ownBlock = some k → w.heap.size + 1 < k

theorem at_door {w w1 w2 w3 : World} {ba : Option Addr} {bc : Nat} {bs : List Int} {ks : List ByteArray} {a' : Option Addr} {c' : Nat}
    (h1 : w1 = (w.alloc (.cells #[.slice ba bs.length bc] 43)).alloc (.cells (ks.map Value.string).toArray 9)) (hb2 : Below w1.heap.size w1 w2) (hs2 : w1.heap.size < w2.heap.size) (hsl : Slices w2 w1.heap.size ks.length)
    (h3 : Buf33 w2 w3 ba bs a' c') : AtDoor w (w3.setCell ⟨w.heap.size, 0, none⟩ (.slice a' bs.length c')) ks w1.heap.size (.slice a' bs.length c') := by
  have hs1 : w1.heap.size = w.heap.size + 2 := by rw [h1]; simp
  have hb3 := h3.below
  have hs3 := hb3.size
  have hb1 : Below w.heap.size w w1 := by rw [h1]; exact (box_below _ _).trans ((box_below _ _).mono (by simp))
  have hb : Below w.heap.size w w3 := hb1.trans ((hb2.mono (by omega)).trans (hb3.mono (by omega)))
  have hbox : w1.cell? ⟨w.heap.size, 0, none⟩ = some (.slice ba bs.length bc) := by rw [h1]; simp
  have hboxf : w1.frozen? ⟨w.heap.size, 0, none⟩ = false := by rw [h1]; simp
  have hc3 : w3.cell? ⟨w.heap.size, 0, none⟩ = some (.slice ba bs.length bc) := by
    rw [hb3.cell (by show w.heap.size < _; omega), hb2.cell (by show w.heap.size < _; omega), hbox]
  have hf3 : w3.frozen? ⟨w.heap.size, 0, none⟩ = false := by
    rw [hb3.frozen (by show w.heap.size < _; omega), hb2.frozen (by show w.heap.size < _; omega), hboxf]
  have hsz : (w3.setCell ⟨w.heap.size, 0, none⟩ (.slice a' bs.length c')).heap.size = w3.heap.size := by simp [World.setCell]
  have far : ∀ b o, b ≠ w.heap.size → (w3.setCell ⟨w.heap.size, 0, none⟩ (.slice a' bs.length c')).cell? ⟨b, o, none⟩ = w3.cell? ⟨b, o, none⟩ := fun b o hne => World.cell?_setCell_other _ _ _ _ (by intro q; cases q; exact hne rfl)
  refine ⟨hb.setCell (Nat.le_refl _) _, ?_, ?_, ⟨World.cell?_setCell_same _ _ _ hc3, by rw [World.frozen?_setCell]; exact hf3, by omega, ?_⟩, ?_⟩
  · intro j hj
    refine ⟨_, _, rfl, by omega, ?_⟩
    rw [far _ _ (by omega), hb3.cell (by show w.heap.size + 1 < _; omega), hb2.cell (by show w.heap.size + 1 < _; omega), h1]
    simp
  · intro j hj
    obtain ⟨a, l, c, h⟩ := hsl j hj
    refine ⟨_, _, a, l, c, rfl, by omega, ?_⟩
    rw [Nat.zero_add, far _ _ (by omega), hb3.cell (by show w1.heap.size < _; omega)]
    exact h
  · by_cases hn : a' = none
    · obtain ⟨rfl, rfl⟩ := h3.hnone hn
      subst hn
      exact .inl rfl
    · obtain ⟨rfl, rfl, ho⟩ := h3.hsome hn
      refine .inr ⟨_, _, _, rfl, Nat.le_refl _, by omega, ?_⟩
      obtain ⟨q1, q2⟩ := ho
      refine ⟨q1, ?_⟩
      rcases q2 with q2 | ⟨g', cap, cur, hv, hg, hh, r⟩
      · exact .inl q2
      · cases hv
        exact .inr ⟨_, _, cur, rfl, hg, by rw [Below.heap_setCell _ _ _ _ (by show w2.heap.size ≠ w.heap.size; omega)]; exact hh, r⟩
  · intro k hk
    by_cases hn : a' = none
    · subst hn; cases hk
    · obtain ⟨rfl, rfl, ho⟩ := h3.hsome hn
      cases hk
      show _ < w2.heap.size
      omega

theorem AtDoor.drew {w W : World} {ks : List ByteArray} {g : Nat} {bv : Value} (h : AtDoor w W ks g bv) : AtDoor w W.drew ks g bv :=
  ⟨h.below.drew, h.keys, h.vals, ⟨h.buf.cell, h.buf.free, h.buf.lt, h.buf.row⟩, h.far⟩

/-- The door, called at the variable of a key. -/
theorem door8 {w W : World} {p nm K : ByteArray} {ks : List ByteArray} {g i sp : Nat} {bv : Value} (hD : AtDoor w W ks g bv) (hl : ks.length ≤ 1048576) (hks : ∀ s ∈ ks, s.size ≤ 1048576) (hi : ks[i]? = some K) (hsp : sp ≤ p.size + K.size)
    (hsz : p.size + K.size ≤ 2097152) :
    Calls Try.prog 34 #[.string p, .string nm, .slice (some ⟨w.heap.size + 1, 0, none⟩) ks.length ks.length, .slice (some ⟨g, 0, none⟩) ks.length ks.length, .string ((p ++ K).extract 0 sp), .string ((p ++ K).extract sp (p.size + K.size)), .pointer (some ⟨w.heap.size, 0, none⟩)] W
      fun e w' => e = .returned (.tuple #[.string K, .bool true]) ∧ Below w.heap.size w w' ∧ w'.cell? ⟨w.heap.size + 1, i, none⟩ = some (.string K) := by
  have hz : (p ++ K).size = p.size + K.size := ByteArray.size_append
  refine (env34_some p nm ⟨w.heap.size + 1, 0, none⟩ ks.length ks (some ⟨g, 0, none⟩) ks.length _ _ w.heap.size W hl hks hD.keys hD.vals _ (keyDoes p nm _ _ ks W w.heap.size bv ?_ ?_ hD.buf)).mono ?_
  · rw [ByteArray.size_extract]; omega
  · rw [ByteArray.size_extract]; omega
  · rintro e w' ⟨r, ok, rfl, hp⟩
    have ha := hp.ans
    rw [← hz, finds (inKeys ks) p K sp hsp (inKeys_mem (List.mem_of_getElem? hi))] at ha
    simp only [Prod.mk.injEq] at ha
    obtain ⟨rfl, rfl⟩ := ha
    have hW : w.heap.size + 1 < W.heap.size := by
      obtain ⟨b, o, hq, hlt, _⟩ := hD.keys.at (k := i) (x := .string r) (by simp [hi])
      cases hq; exact hlt
    refine ⟨rfl, hD.below.trans (hp.but.below (by omega) (fun k hk => ?_)), ?_⟩
    · rcases hk with rfl | hk
      · exact Nat.le_refl _
      · have := hD.far k hk; omega
    · obtain ⟨b, o, hq, hlt, hc⟩ := hD.keys.at (k := i) (x := .string r) (by simp [hi])
      cases hq
      rw [Nat.zero_add] at hc
      rw [World.cell?_of_block (w := W) (hp.but.block _ hW (fun q => ?_))]
      · exact hc
      · rcases q with q | q
        · simp at q
        · have := hD.far _ q; simp at this

set_option maxRecDepth 100000 in
set_option maxHeartbeats 400000 in
theorem law8 (p nm : ByteArray) (ka : Option Addr) (kc : Nat) (ks : List ByteArray) (va : Option Addr) (vc : Nat) (vs : List (Option Addr × Nat × List ByteArray)) (x y : Int) (ba : Option Addr) (bc : Nat) (bs : List Int) (w : World)
    (hA : Hid (EnvArgs w p nm ka kc ks va vc vs ba bc bs)) :
    Calls Try.prog 8 #[.string p, .string nm, .slice ka ks.length kc, .slice va vs.length vc, .int .i64 x, .int .i64 y, .slice ba bs.length bc] w fun e w' => e = .returned (.bool true) ∧ Below w.heap.size w w' := by
  have hB := hid (box_below w (.cells #[.slice ba bs.length bc] 43))
  have hK := hid (hA.out.args.below hB.out)
  go_enter Try.func8, Try.ntmps8
  go_wp2_with fail
  refine (bytes39 p nm ka kc ks va vc vs x y ba bs.length bc _ hA.out.hp hA.out.hnm hA.out.hks hA.out.hvs hA.out.hbs hA.out.hk hA.out.hv hK).mono ?_
  rintro e w' (⟨rfl, rfl⟩ | ⟨rfl, rfl, hsm⟩)
  · go_wp2
    go_ret
    exact ⟨rfl, hB.out⟩
  have hS := hid hsm
  clear hsm
  go_wp2_with fail
  refine (size30 p nm ka kc ks va vc vs _ _ bs.length _ hS (by decide) (by decide) hK).mono ?_
  rintro e w' (⟨rfl, rfl⟩ | ⟨rfl, rfl, _⟩)
  · go_wp2
    go_ret
    exact ⟨rfl, hB.out⟩
  by_cases hlen : vs.length = ks.length
  rotate_left
  · have : ((ks.length : Int) == vs.length) = false := by simp; omega
    go_wp2
    go_ret
    exact ⟨rfl, hB.out⟩
  by_cases hx0 : x < 0
  · go_wp2_with fail
    go_ret
    exact ⟨rfl, hB.out⟩
  by_cases hx1 : x < ks.length
  rotate_left
  · go_wp2_with fail
    go_ret
    exact ⟨rfl, hB.out⟩
  obtain ⟨i, rfl⟩ := Int.eq_ofNat_of_zero_le (by omega : 0 ≤ x)
  have hi : i < ks.length := by omega
  obtain ⟨K, hKi⟩ : ∃ s, ks[i]? = some s := ⟨_, List.getElem?_eq_getElem hi⟩
  obtain ⟨kb, ko, rfl, hkb, hkc⟩ := hK.out.keys.at (k := i) (x := .string K) (by simp [hKi])
  have HKi := hid hKi
  clear hKi
  by_cases hy0 : y < 0
  · go_wp2_with fail
    go_ret
    exact ⟨rfl, hB.out⟩
  have hps : p.size ≤ 1048576 := hS.out.hp
  have hKs : K.size ≤ 1048576 := hS.out.hk K (List.mem_of_getElem? HKi.out)
  by_cases hy1 : y ≤ (p.size : Int) + K.size
  rotate_left
  · go_wp2_with fail
    go_ret
    exact ⟨rfl, hB.out⟩
  obtain ⟨sp, rfl⟩ := Int.eq_ofNat_of_zero_le (by omega : 0 ≤ y)
  have hsp : sp ≤ p.size + K.size := by omega
  go_wp2_with fail
  obtain ⟨vb, vo, rfl, hvb, hvc⟩ := hK.out.vals i (by simp; omega)
  clear hvb hvc hkb hkc
  refine (clone31_some ⟨kb, ko, none⟩ kc ks _ hS.out.hks hK.out.keys).mono ?_
  rintro e w1 ⟨rfl, hw1⟩
  have H1 := hid hw1
  have hs1 := hid (show w1.heap.size = w.heap.size + 2 by rw [hw1]; simp)
  have hb1 := hid (show Below (w.heap.size + 1) (w.alloc (.cells #[.slice ba bs.length bc] 43)) w1 by rw [hw1]; exact (Below.refl _ _).alloc (by simp) _)
  clear hw1
  have HC := clone32_some ⟨vb, vo, none⟩ vc vs w1 hS.out.hvs (fun x hx => ⟨(hS.out.hv x hx).1, hA.out.each x hx⟩) (hK.out.vals.below (hb1.out.mono (by simp))) (fun x hx => (hK.out.each x hx).below (hb1.out.mono (by simp)))
  rw [hlen] at HC
  go_wp2_with fail
  refine HC.mono ?_
  rintro e w2 ⟨rfl, hb2, hs2, hsl⟩
  have HB2 := hid hb2
  have HSL := hid hsl
  have HBy := hid (hA.out.bytes.below (hB.out.trans ((hb1.out.mono (Nat.le_succ _)).trans (hb2.mono (by have := hs1.out; omega)))))
  have hc2 : w2.cell? ⟨w.heap.size, 0, none⟩ = some (.slice ba bs.length bc) := by
    rw [hb2.cell (by have := hs1.out; show w.heap.size < _; omega), hb1.out.cell (by show w.heap.size < _; omega)]; simp
  have hf2 : w2.frozen? ⟨w.heap.size, 0, none⟩ = false := by
    rw [hb2.frozen (by have := hs1.out; show w.heap.size < _; omega), hb1.out.frozen (by show w.heap.size < _; omega)]; simp
  have hk2 : w2.cell? ⟨w.heap.size + 1, i, none⟩ = some (.string K) := by
    rw [hb2.cell (by have := hs1.out; show w.heap.size + 1 < _; omega), H1.out]
    simp [HKi.out]
  clear hb2 hsl HC
  go_wp2_with fail
  refine (clone33 ba bc bs w2 hS.out.hn hA.out.bnil HBy).mono ?_
  rintro e w3 ⟨a', c', rfl, h3⟩
  have hD := hid (at_door H1.out HB2.out hs2 HSL.out h3)
  have hc3 : w3.cell? ⟨w.heap.size, 0, none⟩ = some (.slice ba bs.length bc) := (h3.below.cell (by show w.heap.size < _; have := hs1.out; omega)).trans hc2
  have hf3 : w3.frozen? ⟨w.heap.size, 0, none⟩ = false := (h3.below.frozen (by show w.heap.size < _; have := hs1.out; omega)).trans hf2
  have hk3 : w3.cell? ⟨w.heap.size + 1, i, none⟩ = some (.string K) := (h3.below.cell (by show w.heap.size + 1 < _; have := hs1.out; omega)).trans hk2
  clear h3 hc2 hf2 hk2 HBy HSL HB2 hs2 hb1
  go_wp2
  go_region_with (go_at_call 34; refine (door8 hD.out.drew hS.out.hks hS.out.hk HKi.out hsp (by omega)).mono ?_; rintro e w4 ⟨rfl, hb4, hk4⟩)
  all_goals
    have HB4 := hid hb4
    clear hb4
    go_wp2
    go_ret
    exact ⟨rfl, HB4.out⟩
end Go.Proofs.Qxb6603130a
