import Derived.Test.Qxb6603130aEnv
namespace Go.Proofs.Qxb6603130a
open Go.RowKit Go.Maps Go.WideMaps

/-- What the method key answers. -/
def keyF (f : ByteArray → Bool) (P pre nam : ByteArray) : ByteArray × Bool :=
  if pre.size < P.size then
    if begins P pre = true then
      if begins nam (P.extract pre.size P.size) = true then (nam.extract (P.size - pre.size) nam.size, f (nam.extract (P.size - pre.size) nam.size)) else (nam, false)
    else (ByteArray.empty, false)
  else if begins pre P = true then
    if (pre.extract P.size pre.size).toList.isEmpty = true then (nam, f nam)
    else if f (pre.extract P.size pre.size ++ nam) = true then (pre.extract P.size pre.size ++ nam, true) else (ByteArray.empty, false)
  else (ByteArray.empty, false)

/-- Does it write its buffer? -/
def uses (P pre : ByteArray) : Prop := ¬ pre.size < P.size ∧ begins pre P = true ∧ (pre.extract P.size pre.size).toList.isEmpty = false

/-- The buffer behind the pointer. -/
structure BufIs (w : World) (pb : Nat) (bv : Value) : Prop where
  cell : w.cell? ⟨pb, 0, none⟩ = some bv
  free : w.frozen? ⟨pb, 0, none⟩ = false
  lt : pb < w.heap.size
  row : bv = .slice none 0 0 ∨ ∃ g n c, bv = .slice (some ⟨g, 0, none⟩) n c ∧ n ≤ c ∧ g ≠ pb ∧ w.ownsRow 0 5 1 (.slice (some ⟨g, 0, none⟩) 0 c) 0 []

structure KeyPost (P pre nam : ByteArray) (ks : List ByteArray) (w : World) (pb : Nat) (bv : Value) (r : ByteArray) (ok : Bool) (w' : World) : Prop where
  ans : (r, ok) = keyF (inKeys ks) P pre nam
  but : But (fun k => k = pb ∨ bv.ownBlock = some k) w w'
  buf : (uses P pre ∧ ∃ g c, w'.cell? ⟨pb, 0, none⟩ = some (.slice (some ⟨g, 0, none⟩) (pre.extract P.size pre.size ++ nam).size c) ∧ w'.ownsRow 0 5 1 (.slice (some ⟨g, 0, none⟩) (pre.extract P.size pre.size ++ nam).size c) (pre.extract P.size pre.size ++ nam).size (Lib.strCells (pre.extract P.size pre.size ++ nam)))
    ∨ (¬ uses P pre ∧ Below w.heap.size w w')

theorem ownsRow_below {w w' : World} {g n c : Nat} {xs : List Value} (h : w.ownsRow 0 5 1 (.slice (some ⟨g, 0, none⟩) n c) n xs) (hb : Below w.heap.size w w') : w'.ownsRow 0 5 1 (.slice (some ⟨g, 0, none⟩) n c) n xs := by
  have hlt := (h.lt g rfl).2
  obtain ⟨h1, h2⟩ := h
  refine ⟨h1, ?_⟩
  rcases h2 with h2 | ⟨g', cap, cur, hv, hg, hh, r⟩
  · exact .inl h2
  · cases hv
    exact .inr ⟨_, _, cur, rfl, hg, (hb.block _ hlt).trans hh, r⟩

theorem keyDoes (P N pre nam : ByteArray) (ks : List ByteArray) (w : World) (pb : Nat) (bv : Value) (hpre : pre.size ≤ 2097152) (hnam : nam.size ≤ 2097152) (hbuf : BufIs w pb bv) : KeyDoes w P N pre nam ks pb (KeyPost P pre nam ks w pb bv) := by
  intro m w1 hb hm hmb
  have hmp : mblock m ≠ some pb := fun q => by have := hmb pb q; have := hbuf.lt; omega
  have plain : ∀ (r : ByteArray) (ok : Bool), (r, ok) = keyF (inKeys ks) P pre nam → ¬ uses P pre → ∀ (e : Ending) (w' : World), (e = .returned (.tuple #[.string r, .bool ok]) ∧ Below w1.heap.size w1 w') → Ans (KeyPost P pre nam ks w pb bv) e w' := by
    rintro r ok ha hu e w' ⟨rfl, hb'⟩
    have hbb := hb.trans (hb'.mono hb.size)
    exact ⟨r, ok, rfl, ⟨ha, But.of_below hbb, .inr ⟨hu, hbb⟩⟩⟩
  by_cases h1 : pre.size < P.size
  · by_cases h2 : begins P pre = true
    · by_cases h3 : begins nam (P.extract pre.size P.size) = true
      · exact (key_3 P N pre nam m (inKeys ks) pb w1 hnam h1 h2 h3 hm).mono (plain _ _ (by rw [keyF, if_pos h1, if_pos h2, if_pos h3]) (fun q => q.1 h1))
      · exact (key_2 P N pre nam m pb w1 h1 h2 (by simpa [Hid] using h3)).mono (plain _ _ (by rw [keyF, if_pos h1, if_pos h2, if_neg h3]) (fun q => q.1 h1))
    · exact (key_1 P N pre nam m pb w1 h1 (by simpa [Hid] using h2)).mono (plain _ _ (by rw [keyF, if_pos h1, if_neg h2]) (fun q => q.1 h1))
  · by_cases h2 : begins pre P = true
    · by_cases h3 : (pre.extract P.size pre.size).toList.isEmpty = true
      · exact (key_5 P N pre nam m (inKeys ks) pb w1 hnam h1 h2 h3 hm).mono (plain _ _ (by rw [keyF, if_neg h1, if_pos h2, if_pos h3]) (fun q => by have := q.2.2; rw [h3] at this; cases this))
      · have h3' : (pre.extract P.size pre.size).toList.isEmpty = false := by simpa using h3
        have hu : uses P pre := ⟨h1, h2, h3'⟩
        have fin : ∀ (v0 : Value), (∀ k, v0.ownBlock = some k → bv.ownBlock = some k) → ∀ (e : Ending) (w' : World), (e = .returned (ans6 (inKeys ks) (pre.extract P.size pre.size ++ nam)) ∧ Post6 w1 w' v0 pb (pre.extract P.size pre.size ++ nam)) → Ans (KeyPost P pre nam ks w pb bv) e w' := by
          rintro v0 hv0 e w' ⟨rfl, hp⟩
          have hbut : But (fun k => k = pb ∨ bv.ownBlock = some k) w w' := (But.of_below hb).trans (hp.but.mono (fun k hk => hk.imp id (hv0 k)))
          unfold ans6
          by_cases h4 : inKeys ks (pre.extract P.size pre.size ++ nam) = true
          · rw [if_pos h4]
            exact ⟨_, _, rfl, ⟨by rw [keyF, if_neg h1, if_pos h2, if_neg h3, if_pos h4], hbut, .inl ⟨hu, hp.buf⟩⟩⟩
          · rw [if_neg h4]
            exact ⟨_, _, rfl, ⟨by rw [keyF, if_neg h1, if_pos h2, if_neg h3, if_neg h4], hbut, .inl ⟨hu, hp.buf⟩⟩⟩
        rcases hbuf.row with rfl | ⟨g, n, c, rfl, hnc, hgp, hown⟩
        · exact (key_6nil P N pre nam m (inKeys ks) pb w1 hnam hpre h1 h2 h3' hm ((hb.cell hbuf.lt).trans hbuf.cell) ((hb.frozen hbuf.lt).trans hbuf.free) (Nat.lt_of_lt_of_le hbuf.lt hb.size) hmp).mono (fin _ (fun k hk => by cases hk))
        · have hg : g < w.heap.size := (hown.lt g rfl).2
          exact (key_6 P N pre nam m (inKeys ks) pb g c n w1 hnam hpre h1 h2 h3' hm ((hb.cell hbuf.lt).trans hbuf.cell) ((hb.frozen hbuf.lt).trans hbuf.free) hnc (Nat.lt_of_lt_of_le hbuf.lt hb.size) (ownsRow_below hown hb) hgp (fun q => by have := hmb g q; omega) hmp).mono (fin _ (fun k hk => hk))
    · exact (key_4 P N pre nam m pb w1 h1 (by simpa [Hid] using h2)).mono (plain _ _ (by rw [keyF, if_neg h1, if_neg h2]) (fun q => h2 q.2.1))
end Go.Proofs.Qxb6603130a
