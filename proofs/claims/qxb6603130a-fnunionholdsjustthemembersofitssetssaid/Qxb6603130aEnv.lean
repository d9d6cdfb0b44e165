import Derived.Test.Qxb6603130aKey6
import Derived.Test.Qxb6603130aSizes
import Derived.RegionTactic
import Derived.BigRegion
namespace Go.Proofs.Qxb6603130a
open Go.RowKit Go.Maps Go.WideMaps

theorem mkmap (n : Nat) (w : World) : (Instr.makeMap 65 (some (.int .i64 n))).run Try.prog w = .ok (.map (some w.heap.size)) (w.alloc (.map #[] 0)) := by
  simp [Instr.makeMap, run_underlying Try.underlying65, asInt, asIntOf]

def inKeys (ks : List ByteArray) (s : ByteArray) : Bool := ks.any (fun k => decide (k = s))

theorem toList_inj' {a b : ByteArray} (h : a.data.toList = b.data.toList) : a = b := by
  cases a; cases b; simp only [ByteArray.mk.injEq]; exact Array.toList_inj.1 h

/-- The store: one more key. -/
theorem MapIs.store {w : World} {b n : Nat} {D : DataW Unit} {ks : List ByteArray} (hown : w.ownsMap Try.prog 9 anyElem b n D) (hf : ∀ s : ByteArray, Maps.has D (.string s.data.toList) = inKeys ks s) (hn : n < maxLen) (k : ByteArray) (hk : k.size ≤ maxLen) (v : Value) :
    ∃ w' D', (Instr.mapUpdate 65 (.map (some b)) (.string k) v).run Try.prog w = .ok () w' ∧ w'.ownsMap Try.prog 9 anyElem b (n + 1) D' ∧ (∀ s : ByteArray, Maps.has D' (.string s.data.toList) = inKeys (ks ++ [k]) s) ∧ w.grownBy w' (some b) := by
  have hkey : keyOf Try.prog 9 (.string k) = some (.string k.data.toList) := keyOf_string_mk Try.underlying9 hk
  obtain ⟨w', hr, h1, h2⟩ := hown.update keyed Try.underlying65 hn hkey (val := v) (d := .lit (.bool true)) (ps := []) rfl
  refine ⟨w', _, hr, h1, fun s => ?_, h2⟩
  by_cases e : s = k
  · subst e
    rw [Maps.has_put_same hown.isMap (keyed.key hkey)]
    simp [inKeys]
  · rw [Maps.has_put_other (fun q => e (toList_inj' (by simpa using q))), hf]
    simp only [inKeys, List.any_append, List.any_cons, List.any_nil, Bool.or_false]
    have : decide (k = s) = false := by simp; exact fun q => e q.symm
    rw [this, Bool.or_false]

/-- A text and a bool come back, of which R speaks. -/
def Ans (R : ByteArray → Bool → World → Prop) (e : Ending) (w' : World) : Prop := ∃ r ok, e = .returned (.tuple #[.string r, .bool ok]) ∧ R r ok w'

/-- What is asked of the method key: at each world behind the making of the map. -/
def KeyDoes (w : World) (P N pre nam : ByteArray) (ks : List ByteArray) (pb : Nat) (R : ByteArray → Bool → World → Prop) : Prop :=
  ∀ m w1, Below w.heap.size w w1 → MapIs w1 m (inKeys ks) → (∀ b, mblock m = some b → w.heap.size ≤ b) → Calls Try.prog 45 #[.agg #[.string P, .string N, m], .string pre, .string nam, .pointer (some ⟨pb, 0, none⟩)] w1 (Ans R)

set_option maxRecDepth 100000 in
set_option maxHeartbeats 400000 in
theorem env34_nil (P N : ByteArray) (va : Option Addr) (vl vc : Nat) (pre nam : ByteArray) (pb : Nat) (w : World) (R : ByteArray → Bool → World → Prop) (H : Hid (KeyDoes w P N pre nam [] pb R)) :
    Calls Try.prog 34 #[.string P, .string N, .slice none 0 0, .slice va vl vc, .string pre, .string nam, .pointer (some ⟨pb, 0, none⟩)] w (Ans R) := by
  have qnil := fun (w : World) (a : Option Addr) (n c n' c' : Nat) => run_neq_slice_nil_any w 41 _ a n c n' c' Try.underlying41
  go_enter Try.func34, Try.ntmps34
  go_wp2_with fail
  refine (H.out (.map none) w (Below.refl _ _) (.inl ⟨rfl, fun _ => rfl⟩) (fun b hb => by cases hb)).mono ?_
  rintro e w' ⟨r, ok, rfl, hR⟩
  have HR := hid hR
  clear hR
  go_wp2_with fail
  go_ret2
  exact ⟨r, ok, rfl, HR.out⟩

set_option maxRecDepth 100000 in
set_option maxHeartbeats 400000 in
theorem env34_some (P N : ByteArray) (x : Addr) (kc : Nat) (ks : List ByteArray) (va : Option Addr) (vc : Nat) (pre nam : ByteArray) (pb : Nat) (w : World) (hl : ks.length ≤ 1048576) (hks : Hid (∀ s ∈ ks, s.size ≤ 1048576))
    (hk : Hid (Has w (some x) (ks.map .string))) (hv : Hid (∀ j, j < ks.length → ∃ b off a l c, va = some ⟨b, off, none⟩ ∧ b < w.heap.size ∧ w.cell? ⟨b, off + j, none⟩ = some (.slice a l c)))
    (R : ByteArray → Bool → World → Prop) (H : Hid (KeyDoes w P N pre nam ks pb R)) :
    Calls Try.prog 34 #[.string P, .string N, .slice (some x) ks.length kc, .slice va ks.length vc, .string pre, .string nam, .pointer (some ⟨pb, 0, none⟩)] w (Ans R) := by
  have qnil := fun (w : World) (a : Option Addr) (n c n' c' : Nat) => run_neq_slice_nil_any w 41 _ a n c n' c' Try.underlying41
  have hmm := mkmap ks.length
  go_enter Try.func34, Try.ntmps34
  go_wp2
  go_loopw [17] (fun i wr => ∃ k : Nat, k ≤ ks.length ∧ i = .int .i64 k ∧ Hid (Below w.heap.size w wr) ∧ Hid (∃ D, wr.ownsMap Try.prog 9 anyElem w.heap.size k D ∧ ∀ s : ByteArray, Maps.has D (.string s.data.toList) = inKeys (ks.take k) s)) (fun i _ => ks.length - (intOf i).toNat)
  case atStart => exact ⟨0, Nat.zero_le _, rfl, (Below.refl _ _).alloc (Nat.le_refl _) _, ⟨.map [], World.ownsMap_made _ _ _ _, fun s => rfl⟩⟩
  case round =>
    obtain ⟨k, hk1, rfl, hbel, hmap⟩ := hrel
    by_cases hlt : k < ks.length
    · obtain ⟨s, hs⟩ : ∃ s, ks[k]? = some s := ⟨_, List.getElem?_eq_getElem hlt⟩
      obtain ⟨b, off, hx, hb, hcell⟩ := hk.out.at (k := k) (x := .string s) (by simp [hs])
      cases hx
      obtain ⟨b2, off2, va', vl, vc', rfl, hb2, hcell2⟩ := hv.out k hlt
      have hsz := hks.out s (List.mem_of_getElem? hs)
      have hcell' : wr.cell? ⟨b, off + k, none⟩ = some (.string s) := (hbel.out.cell hb).trans hcell
      have hcell2' : wr.cell? ⟨b2, off2 + k, none⟩ = some (.slice va' vl vc') := (hbel.out.cell hb2).trans hcell2
      obtain ⟨D, hD1, hD2⟩ := hmap.out
      obtain ⟨w1, D', hrun, hD1', hD2', hgr⟩ := MapIs.store hD1.drew hD2 (by unfold maxLen; omega) s (by unfold maxLen; omega) (.slice va' vl vc')
      have HS := hid (show ks.take k ++ [s] = ks.take (k + 1) by rw [List.take_add_one, hs]; rfl)
      have HD1 := hid hD1'
      have HD2 := hid hD2'
      have HB := hid (hbel.out.grown (w' := w1) (row := some w.heap.size) ⟨hgr.os, hgr.tape, hgr.output, hgr.size, hgr.block⟩ hbel.out.size (fun q hq => by cases hq; exact Nat.le_refl _))
      have hi0 : (0 : Int) ≤ (k : Int) := by omega
      have hi1 : (k : Int) < (ks.length : Int) := by omega
      clear hcell hcell2 hs hD1 hD2 hD1' hD2' hgr hmap
      go_wp2
      go_region
      go_wp2
      exact ⟨⟨k + 1, by omega, by go_num, HB, ⟨D', HD1.out, by rw [← HS.out]; exact HD2.out⟩⟩, by simp [intOf]; omega⟩
    · have hfin := hid (show MapIs wr (.map (some w.heap.size)) (inKeys ks) from by
        obtain ⟨D, q1, q2⟩ := hmap.out
        rw [List.take_of_length_le (by omega)] at q2
        exact .inr ⟨_, _, D, rfl, q1, q2⟩)
      clear hmap
      go_wp2_with fail
      refine (H.out (.map (some w.heap.size)) wr hbel.out hfin.out (fun b hb => by cases hb; exact Nat.le_refl _)).mono ?_
      rintro e w' ⟨r, ok, rfl, hR⟩
      have HR := hid hR
      clear hR
      go_wp2_with fail
      go_ret2
      exact ⟨r, ok, rfl, HR.out⟩
end Go.Proofs.Qxb6603130a
