import Derived.Test.Qxb6603130aLaw8
import Derived.Test.Qxb6603130aSmall7
import Derived.Test.Qxb6603130aSizes29
namespace Go.Proofs.Qxb6603130a
open Go.RowKit Go.Maps Go.WideMaps

theorem Has.but {w w' : World} {a : Option Addr} {xs : List Value} {S : Nat → Prop} (h : Has w a xs) (hb : But S w w') (hf : ∀ x, a = some x → ¬ S x.block) : Has w' a xs := by
  intro j hj
  obtain ⟨b, off, rfl, hlt, hc⟩ := h j hj
  refine ⟨b, off, rfl, Nat.lt_of_lt_of_le hlt hb.size, ?_⟩
  rw [World.cell?_of_block (w := w) (hb.block b hlt (hf _ rfl))]
  exact hc

theorem clone31' (a : Option Addr) (c : Nat) (ss : List ByteArray) (w : World) (hl : ss.length ≤ 1048576) (hn : a = none → c = 0 ∧ ss = []) (hc : Hid (Has w a (ss.map .string))) :
    Calls Try.prog 31 #[.slice a ss.length c] w fun e w' => ∃ a' c', e = .returned (.slice a' ss.length c') ∧ Below w.heap.size w w' ∧ Has w' a' (ss.map .string) ∧ (a' = none → c' = 0 ∧ ss = []) ∧ (∀ x, a' = some x → w.heap.size ≤ x.block ∧ x.block < w'.heap.size) := by
  cases a with
  | none =>
    obtain ⟨rfl, rfl⟩ := hn rfl
    refine (clone31_nil w).mono ?_
    rintro e w' ⟨rfl, rfl⟩
    exact ⟨none, 0, rfl, Below.refl _ _, hc.out, fun _ => ⟨rfl, rfl⟩, fun x h => by cases h⟩
  | some x =>
    refine (clone31_some x c ss w hl hc).mono ?_
    rintro e w' ⟨rfl, rfl⟩
    refine ⟨_, _, rfl, (Below.refl _ _).alloc (Nat.le_refl _) _, ?_, (fun h => by cases h), fun x h => by cases h; exact ⟨Nat.le_refl _, by simp⟩⟩
    intro j hj
    exact ⟨_, _, rfl, by simp, by simp⟩

def HasSlices (w : World) (a : Option Addr) (n : Nat) : Prop := ∀ j, j < n → ∃ b off x l c, a = some ⟨b, off, none⟩ ∧ b < w.heap.size ∧ w.cell? ⟨b, off + j, none⟩ = some (.slice x l c)

theorem HasSlices.below {w w' : World} {a : Option Addr} {n : Nat} (h : HasSlices w a n) (hb : Below w.heap.size w w') : HasSlices w' a n := by
  intro j hj
  obtain ⟨b, off, x, l, c, e, hlt, hc⟩ := h j hj
  exact ⟨b, off, x, l, c, e, Nat.lt_of_lt_of_le hlt hb.size, (hb.cell hlt).trans hc⟩

theorem clone32' (a : Option Addr) (c : Nat) (vs : List (Option Addr × Nat × List ByteArray)) (w : World) (hl : vs.length ≤ 1048576) (hl2 : ∀ x ∈ vs, x.2.2.length ≤ 1048576 ∧ NilOk x) (hn : a = none → c = 0 ∧ vs = []) (hc : Has w a (vs.map sv)) (hc2 : ∀ x ∈ vs, Has w x.1 (x.2.2.map .string)) :
    Calls Try.prog 32 #[.slice a vs.length c] w fun e w' => ∃ a' c', e = .returned (.slice a' vs.length c') ∧ Below w.heap.size w w' ∧ HasSlices w' a' vs.length := by
  cases a with
  | none =>
    obtain ⟨rfl, rfl⟩ := hn rfl
    refine (clone32_nil w).mono ?_
    rintro e w' ⟨rfl, rfl⟩
    exact ⟨none, 0, rfl, Below.refl _ _, fun j hj => absurd hj (by simp)⟩
  | some x =>
    refine (clone32_some x c vs w hl hl2 hc hc2).mono ?_
    rintro e w' ⟨rfl, hb, hs, hsl⟩
    refine ⟨_, _, rfl, hb, ?_⟩
    intro j hj
    obtain ⟨a, l, c, h⟩ := hsl j hj
    exact ⟨_, 0, a, l, c, rfl, hs, by rw [Nat.zero_add]; exact h⟩

/-- What is known where the law calls its door. -/
structure Door7 (w W : World) (ks : List ByteArray) (bs : List Int) (ka va ba wa : Option Addr) (kc wc pb : Nat) : Prop where
  below : Below w.heap.size w W
  keys : Has W ka (ks.map .string)
  knil : ka = none → kc = 0 ∧ ks = []
  vals : HasSlices W va ks.length
  buf : BufIs W pb (.slice wa bs.length wc)
  copy : Has W ba (bs.map (.int .u8))
  work : Has W wa (bs.map (.int .u8))
  nil : wa = none ↔ ba = none
  own : ∀ k, (k = pb ∨ (Value.slice wa bs.length wc).ownBlock = some k) → w.heap.size ≤ k
  kfar : ∀ x, ka = some x → ¬ (x.block = pb ∨ (Value.slice wa bs.length wc).ownBlock = some x.block)

theorem door7 {w w1 w2 w3 w4 : World} {ks : List ByteArray} {bs : List Int} {ka va ba ba0 wa : Option Addr} {kc bc wc : Nat}
    (hb1 : Below w.heap.size w w1) (hk1 : Has w1 ka (ks.map .string)) (hkn : ka = none → kc = 0 ∧ ks = []) (hkb : ∀ x, ka = some x → w.heap.size ≤ x.block ∧ x.block < w1.heap.size)
    (hb2 : Below w1.heap.size w1 w2) (hv2 : HasSlices w2 va ks.length) (h3 : Buf33 w2 w3 ba0 bs ba bc) (h4 : Buf33 w3 w4 ba bs wa wc) :
    Door7 w (w4.alloc (.cells #[.slice wa bs.length wc] 43)) ks bs ka va ba wa kc wc w4.heap.size := by
  have s1 := hb1.size
  have s2 := hb2.size
  have s3 := h3.below.size
  have s4 := h4.below.size
  have a5 := box_below w4 (.cells #[.slice wa bs.length wc] 43)
  have b45 : Below w3.heap.size w3 (w4.alloc (.cells #[.slice wa bs.length wc] 43)) := h4.below.trans (a5.mono s4)
  have b25 : Below w2.heap.size w2 (w4.alloc (.cells #[.slice wa bs.length wc] 43)) := h3.below.trans (b45.mono s3)
  have b15 : Below w1.heap.size w1 (w4.alloc (.cells #[.slice wa bs.length wc] 43)) := hb2.trans (b25.mono s2)
  refine ⟨hb1.trans (b15.mono s1), hk1.below b15, hkn, hv2.below b25, ⟨by simp, by simp, by simp, ?_⟩, h3.has.below b45, h4.has.below a5, h4.hnil, ?_, ?_⟩
  · by_cases hn : wa = none
    · obtain ⟨rfl, rfl⟩ := h4.hnone hn
      subst hn
      exact .inl rfl
    · obtain ⟨rfl, rfl, ho⟩ := h4.hsome hn
      have hlt := (ho.lt _ rfl).2
      have hlt' : w3.heap.size < w4.heap.size := hlt
      exact .inr ⟨_, _, _, rfl, Nat.le_refl _, by omega, ho.alloc _⟩
  · rintro k (rfl | hk)
    · omega
    · by_cases hn : wa = none
      · subst hn; cases hk
      · obtain ⟨rfl, rfl, ho⟩ := h4.hsome hn
        cases hk
        show _ ≤ w3.heap.size
        omega
  · intro x hx
    obtain ⟨q1, q2⟩ := hkb x hx
    rintro (h | hk)
    · omega
    · by_cases hn : wa = none
      · subst hn; cases hk
      · obtain ⟨rfl, rfl, ho⟩ := h4.hsome hn
        have : w3.heap.size = x.block := by simpa [Value.ownBlock] using hk
        omega

/-- The door, called. -/
theorem call7 {w W : World} {ks : List ByteArray} {bs : List Int} {ka va ba wa : Option Addr} {kc vc wc pb : Nat} (hD : Door7 w W ks bs ka va ba wa kc wc pb) (p nm pre nam : ByteArray) (hl : ks.length ≤ 1048576) (hks : ∀ s ∈ ks, s.size ≤ 1048576) (hpre : pre.size ≤ 1048576) (hnam : nam.size ≤ 1048576) :
    Calls Try.prog 34 #[.string p, .string nm, .slice ka ks.length kc, .slice va ks.length vc, .string pre, .string nam, .pointer (some ⟨pb, 0, none⟩)] W (Ans (KeyPost p pre nam ks W pb (.slice wa bs.length wc))) := by
  cases ka with
  | none =>
    obtain ⟨rfl, rfl⟩ := hD.knil rfl
    exact env34_nil p nm va 0 vc pre nam pb W _ (keyDoes p nm pre nam [] W pb _ (by omega) (by omega) hD.buf)
  | some x => exact env34_some p nm x kc ks va vc pre nam pb W hl hks hD.keys hD.vals _ (keyDoes p nm pre nam ks W pb _ (by omega) (by omega) hD.buf)


theorem bytesAre37' (a : Option Addr) (n c : Nat) (s : ByteArray) (w : World) (hn : n = s.size) (hl : s.size ≤ 4194304) (hk : Has w a (Lib.strCells s)) :
    Calls Try.prog 37 #[.slice a n c, .string s] w fun e w' => e = .returned (.bool true) ∧ ∃ n, w' = w.drewN n := by
  subst hn
  exact bytesAre37 a c s w hl hk

theorem below_drawn {B : Nat} {a w : World} (h : Below B a w) (n : Nat) : Below B a (w.drewN n) := ⟨h.os, h.tape, h.output, h.size, h.block⟩

theorem Has.drawn {w : World} {a : Option Addr} {xs : List Value} (h : Has w a xs) (n : Nat) : Has (w.drewN n) a xs := h

/-- What is known behind the door. -/
structure After7 (w w6 : World) (ks : List ByteArray) (ka : Option Addr) : Prop where
  below : Below w.heap.size w w6
  keys : Has w6 ka (ks.map .string)

theorem after7 {w W w6 : World} {ks : List ByteArray} {bs : List Int} {ka va ba wa : Option Addr} {kc wc pb : Nat} {p pre nam r : ByteArray} {ok : Bool} (hD : Door7 w W ks bs ka va ba wa kc wc pb) (hp : KeyPost p pre nam ks W pb (.slice wa bs.length wc) r ok w6) : After7 w w6 ks ka :=
  ⟨hD.below.trans (hp.but.below hD.below.size hD.own), hD.keys.but hp.but hD.kfar⟩

/-- The buffer was not used. -/
theorem still7 {w W w6 : World} {ks : List ByteArray} {bs : List Int} {ka va ba wa : Option Addr} {kc wc pb : Nat} {p pre nam r : ByteArray} {ok : Bool} (hD : Door7 w W ks bs ka va ba wa kc wc pb) (hp : KeyPost p pre nam ks W pb (.slice wa bs.length wc) r ok w6) (hu : ¬ (p.size < pre.size ∧ begins pre p = true)) :
    w6.cell? ⟨pb, 0, none⟩ = some (.slice wa bs.length wc) ∧ Has w6 wa (bs.map (.int .u8)) ∧ Has w6 ba (bs.map (.int .u8)) := by
  rcases hp.buf with ⟨q, _⟩ | ⟨_, hb⟩
  · exact absurd ((uses_iff _ _).1 q) hu
  · exact ⟨(hb.cell hD.buf.lt).trans hD.buf.cell, hD.work.below hb, hD.copy.below hb⟩

/-- It was. -/
theorem used7 {W w6 : World} {ks : List ByteArray} {bv : Value} {pb : Nat} {p pre nam r : ByteArray} {ok : Bool} (hp : KeyPost p pre nam ks W pb bv r ok w6) (h1 : p.size < pre.size) (h2 : begins pre p = true) :
    ∃ g c N, N = ((pre ++ nam).extract p.size (pre.size + nam.size)).size ∧ w6.cell? ⟨pb, 0, none⟩ = some (.slice (some ⟨g, 0, none⟩) N c) ∧ Has w6 (some ⟨g, 0, none⟩) (Lib.strCells ((pre ++ nam).extract p.size (pre.size + nam.size))) := by
  have hz : (pre ++ nam).size = pre.size + nam.size := ByteArray.size_append
  rw [← hz, rest_eq p pre nam (by omega)]
  rcases hp.buf with ⟨_, g, c, q1, q2⟩ | ⟨q, _⟩
  · refine ⟨g, c, _, rfl, q1, ?_⟩
    have hlt := (q2.lt g rfl).2
    have hcs := q2.cells (g := g) rfl
    refine fun j hj => ⟨g, 0, rfl, hlt, ?_⟩
    have := hcs j _ (List.getElem?_eq_getElem hj)
    rw [Go.WideShapes.add_plain] at this
    rw [this, List.getElem?_eq_getElem hj]
  · exact absurd ((uses_iff _ _).2 ⟨h1, h2⟩) q

set_option maxRecDepth 100000 in
set_option maxHeartbeats 2000000 in
theorem law7 (p nm : ByteArray) (ka : Option Addr) (kc : Nat) (ks : List ByteArray) (va : Option Addr) (vc : Nat) (vs : List (Option Addr × Nat × List ByteArray)) (pre nam : ByteArray) (ba : Option Addr) (bc : Nat) (bs : List Int) (w : World)
    (hA : Hid (EnvArgs w p nm ka kc ks va vc vs ba bc bs)) (hpre : pre.size ≤ maxLen) (hnam : nam.size ≤ maxLen) :
    Calls Try.prog 7 #[.string p, .string nm, .slice ka ks.length kc, .slice va vs.length vc, .string pre, .string nam, .slice ba bs.length bc] w fun e w' => e = .returned (.bool true) ∧ Below w.heap.size w w' := by
  have H1 := hid hpre
  have H2 := hid hnam
  clear hpre hnam
  go_enter Try.func7, Try.ntmps7
  go_wp2_with fail
  refine (bytes29 p nm ka kc ks va vc vs pre nam ba bs.length bc _ hA.out.hp hA.out.hnm hA.out.hks hA.out.hvs hA.out.hbs H1.out H2.out hA.out.hk hA.out.hv hA.out.args).mono ?_
  rintro e w' (⟨rfl, rfl⟩ | ⟨rfl, rfl, hsm, hpre, hnam⟩)
  · go_wp2
    go_ret
    exact ⟨rfl, Below.refl _ _⟩
  have hS := hid hsm
  clear hsm
  go_wp2_with fail
  refine (size30 p nm ka kc ks va vc vs pre nam bs.length _ hS hpre hnam hA.out.args).mono ?_
  rintro e w' (⟨rfl, rfl⟩ | ⟨rfl, rfl, _⟩)
  · go_wp2
    go_ret
    exact ⟨rfl, Below.refl _ _⟩
  by_cases hlen : vs.length = ks.length
  rotate_left
  · have : ((ks.length : Int) == vs.length) = false := by simp; omega
    go_wp2
    go_ret
    exact ⟨rfl, Below.refl _ _⟩
  go_wp2_with fail
  refine (clone31' ka kc ks _ hS.out.hks hA.out.knil hA.out.args.keys).mono ?_
  rintro e w1 ⟨ka', kc', rfl, hb1, hk1, hkn, hkb⟩
  have HB1 := hid hb1
  have HK1 := hid hk1
  have HKN := hid hkn
  have HKB := hid hkb
  have HC := clone32' va vc vs w1 hS.out.hvs (fun x hx => ⟨(hS.out.hv x hx).1, hA.out.each x hx⟩) hA.out.vnil (hA.out.args.vals.below hb1) (fun x hx => (hA.out.args.each x hx).below hb1)
  rw [hlen] at HC
  clear hb1 hk1 hkn hkb
  go_wp2_with fail
  refine HC.mono ?_
  rintro e w2 ⟨va', vc', rfl, hb2, hv2⟩
  have HB2 := hid hb2
  have HV2 := hid hv2
  clear hb2 hv2 HC
  go_wp2_with fail
  refine (clone33 ba bc bs w2 hS.out.hn hA.out.bnil (hA.out.bytes.below (HB1.out.trans (HB2.out.mono HB1.out.size)))).mono ?_
  rintro e w3 ⟨ba', bc', rfl, h3⟩
  have H3 := hid h3
  clear h3
  go_wp2_with fail
  refine (clone33 ba' bc' bs w3 hS.out.hn H3.out.hnone H3.out.has).mono ?_
  rintro e w4 ⟨wa, wc, rfl, h4⟩
  have HD := hid (door7 HB1.out HK1.out HKN.out HKB.out HB2.out HV2.out H3.out h4)
  clear h4
  go_wp2_with fail
  refine (call7 HD.out p nm pre nam hS.out.hks hS.out.hk hpre hnam).mono ?_
  rintro e w6 ⟨r, ok, rfl, hp⟩
  have ha := hp.ans
  rw [keyF_want] at ha
  have HP := hid hp
  clear hp
  have HA := hid (after7 HD.out HP.out)
  have hz : (pre ++ nam).size = pre.size + nam.size := ByteArray.size_append
  have hps := hS.out.hp
  have qnil := fun (w : World) (a : Option Addr) (n c n' c' : Nat) => Lib.run_eql_slice_nil w 43 _ a n c n' c' Try.underlying43
  have hnn : (wa.isNone == ba'.isNone) = true := by
    have := HD.out.nil
    cases wa <;> cases ba' <;> simp at this ⊢
  unfold want at ha
  rw [hz] at ha
  by_cases hC : p.size < pre.size ∧ begins pre p = true
  · obtain ⟨c1, c2⟩ := hC
    have a1 : begins (pre ++ nam) p = true := by rw [begins_app p pre nam (by omega)]; exact c2
    rw [if_pos a1] at ha
    obtain ⟨g, c, N, hN, hwc, hwk⟩ := used7 HP.out c1 c2
    have HN := hid hN
    have HW := hid hwk
    have C2 := hid c2
    have A1 := hid a1
    clear hN hwk c2 a1
    have hNl : ((pre ++ nam).extract p.size (pre.size + nam.size)).size ≤ 4194304 := by rw [ByteArray.size_extract]; omega
    have HNl := hid hNl
    clear hNl
    by_cases hin : inKeys ks ((pre ++ nam).extract p.size (pre.size + nam.size)) = true
    · rw [if_pos hin] at ha
      obtain ⟨rfl, rfl⟩ := Prod.mk.inj ha
      clear ha
      go_wp2_with fail
      refine (has35 _ _ _ true A1.out).mono ?_
      rintro e w7 ⟨rfl, rfl⟩
      go_wp2_with fail
      refine (member36 ka' kc' ks _ _ hS.out.hks HA.out.keys).mono ?_
      rintro e w7 ⟨rfl, rfl⟩
      go_wp2_with fail
      refine (has35 _ _ _ true C2.out).mono ?_
      rintro e w7 ⟨rfl, rfl⟩
      go_wp2
      go_quiet ((go_at_call 37; exact Calls.quiet_of (bytesAre37' _ N c _ _ HN.out HNl.out (HW.out.drawn _))))
      go_wp2
      go_ret
      exact ⟨rfl, below_drawn HA.out.below _⟩
    · rw [if_neg hin, if_neg (by omega)] at ha
      obtain ⟨rfl, rfl⟩ := Prod.mk.inj ha
      clear ha
      have hin' : inKeys ks ((pre ++ nam).extract p.size (pre.size + nam.size)) = false := by simpa using hin
      clear hin
      go_wp2_with fail
      refine (has35 _ _ _ true A1.out).mono ?_
      rintro e w7 ⟨rfl, rfl⟩
      go_wp2_with fail
      refine (member36 ka' kc' ks _ _ hS.out.hks HA.out.keys).mono ?_
      rintro e w7 ⟨rfl, rfl⟩
      go_wp2_with fail
      refine (has35 _ _ _ true C2.out).mono ?_
      rintro e w7 ⟨rfl, rfl⟩
      go_wp2
      go_quiet ((go_at_call 37; exact Calls.quiet_of (bytesAre37' _ N c _ _ HN.out HNl.out (HW.out.drawn _))))
      go_wp2
      go_ret
      exact ⟨rfl, below_drawn HA.out.below _⟩
  · obtain ⟨hwc, hwk, hwb⟩ := still7 HD.out HP.out hC
    have HW := hid hwk
    have HWB := hid hwb
    clear hwk hwb
    have fin38 := hid (eqBytes38 wa wc ba' bc' bs w6 (by have := hS.out.hn; omega) HW.out HWB.out)
    by_cases a1 : begins (pre ++ nam) p = true
    · have c3 : ¬ p.size < pre.size := fun q => hC ⟨q, by rw [← begins_app p pre nam (by omega)]; exact a1⟩
      have A1 := hid a1
      have hle : p.size ≤ pre.size + nam.size := by have := begins_le a1; omega
      rw [if_pos a1] at ha
      clear hC a1
      by_cases hin : inKeys ks ((pre ++ nam).extract p.size (pre.size + nam.size)) = true
      · rw [if_pos hin] at ha
        obtain ⟨rfl, rfl⟩ := Prod.mk.inj ha
        clear ha
        go_wp2_with fail
        refine (has35 _ _ _ true A1.out).mono ?_
        rintro e w7 ⟨rfl, rfl⟩
        go_wp2_with fail
        refine (member36 ka' kc' ks _ _ hS.out.hks HA.out.keys).mono ?_
        rintro e w7 ⟨rfl, rfl⟩
        go_wp2_with fail
        refine fin38.out.mono ?_
        rintro e w7 ⟨rfl, n7, rfl⟩
        go_wp2
        go_ret
        exact ⟨rfl, below_drawn HA.out.below _⟩
      · rw [if_neg hin, if_pos (by omega)] at ha
        obtain ⟨rfl, rfl⟩ := Prod.mk.inj ha
        clear ha
        have hin' : inKeys ks ((pre ++ nam).extract p.size (pre.size + nam.size)) = false := by simpa using hin
        clear hin
        go_wp2_with fail
        refine (has35 _ _ _ true A1.out).mono ?_
        rintro e w7 ⟨rfl, rfl⟩
        go_wp2_with fail
        refine (member36 ka' kc' ks _ _ hS.out.hks HA.out.keys).mono ?_
        rintro e w7 ⟨rfl, rfl⟩
        go_wp2_with fail
        refine fin38.out.mono ?_
        rintro e w7 ⟨rfl, n7, rfl⟩
        go_wp2
        go_ret
        exact ⟨rfl, below_drawn HA.out.below _⟩
    · have A1 := hid (show begins (pre ++ nam) p = false by simpa using a1)
      rw [if_neg a1] at ha
      clear a1
      by_cases c3 : pre.size < p.size
      · rw [if_pos c3] at ha
        clear hC
        by_cases b1 : begins p pre = true
        · rw [if_pos b1] at ha
          obtain ⟨rfl, rfl⟩ := Prod.mk.inj ha
          have B1 := hid b1
          clear ha b1
          go_wp2_with fail
          refine (has35 _ _ _ false A1.out).mono ?_
          rintro e w7 ⟨rfl, rfl⟩
          go_wp2_with fail
          refine (has35 _ _ _ true B1.out).mono ?_
          rintro e w7 ⟨rfl, rfl⟩
          go_wp2_with fail
          refine fin38.out.mono ?_
          rintro e w7 ⟨rfl, n7, rfl⟩
          go_wp2
          go_ret
          exact ⟨rfl, below_drawn HA.out.below _⟩
        · rw [if_neg b1] at ha
          obtain ⟨rfl, rfl⟩ := Prod.mk.inj ha
          have B1 := hid (show begins p pre = false by simpa using b1)
          clear ha b1
          go_wp2_with fail
          refine (has35 _ _ _ false A1.out).mono ?_
          rintro e w7 ⟨rfl, rfl⟩
          go_wp2_with fail
          refine (has35 _ _ _ false B1.out).mono ?_
          rintro e w7 ⟨rfl, rfl⟩
          go_wp2_with fail
          refine fin38.out.mono ?_
          rintro e w7 ⟨rfl, n7, rfl⟩
          go_wp2
          go_ret
          exact ⟨rfl, below_drawn HA.out.below _⟩
      · rw [if_neg c3] at ha
        obtain ⟨rfl, rfl⟩ := Prod.mk.inj ha
        clear ha
        by_cases c4 : p.size < pre.size
        · have B1 := hid (show begins pre p = false by
            have : ¬ begins pre p = true := fun q => hC ⟨c4, q⟩
            simpa using this)
          clear hC
          go_wp2_with fail
          refine (has35 _ _ _ false A1.out).mono ?_
          rintro e w7 ⟨rfl, rfl⟩
          go_wp2_with fail
          refine (has35 _ _ _ false B1.out).mono ?_
          rintro e w7 ⟨rfl, rfl⟩
          go_wp2_with fail
          refine fin38.out.mono ?_
          rintro e w7 ⟨rfl, n7, rfl⟩
          go_wp2
          go_ret
          exact ⟨rfl, below_drawn HA.out.below _⟩
        · clear hC
          go_wp2_with fail
          refine (has35 _ _ _ false A1.out).mono ?_
          rintro e w7 ⟨rfl, rfl⟩
          go_wp2_with fail
          refine fin38.out.mono ?_
          rintro e w7 ⟨rfl, n7, rfl⟩
          go_wp2
          go_ret
          exact ⟨rfl, below_drawn HA.out.below _⟩
end Go.Proofs.Qxb6603130a
