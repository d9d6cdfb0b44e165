import Derived.Test.Qxb6603130aSets
namespace Go.Proofs.Qxb6603130a
open Go.RowKit

theorem holds_made' {Is Ss : List Sl} (w : World) (W : Nat) {g : Nat} (hg : w.heap.size = g) : Holds (w.alloc (.cells (madeCells #[.int .u64 0] W) 62)) g W (memTo Is Ss 0) (List.replicate W 0) := by
  subst hg
  exact (holds_made w W).congr (fun i _ => by simp [memTo])

theorem total_mem {Is : List Sl} {x : Sl} (h : x ∈ Is) : x.2.2.length ≤ total Is := by
  unfold total
  induction Is with
  | nil => cases h
  | cons a t ih =>
    simp only [List.map_cons, List.sum_cons]
    rcases List.mem_cons.1 h with rfl | h
    · omega
    · have := ih h; omega

theorem wrap_pow_range (k : Nat) : 0 ≤ IntKind.u64.wrap (2 ^ k) ∧ IntKind.u64.wrap (2 ^ k) < 18446744073709551616 := by
  show 0 ≤ (2 : Int) ^ k % 18446744073709551616 ∧ (2 : Int) ^ k % 18446744073709551616 < 18446744073709551616
  omega

theorem Holds.grow {w w' : World} {gs W : Nat} {f : Nat → Bool} {L : List Int} (h : Holds w gs W f L) (hb : Below w.heap.size w w') : Holds w' gs W f L :=
  ⟨(hb.block gs h.row.lt).trans h.row, h.len, h.words, h.bit⟩

theorem holds_next {w : World} {gs W : Nat} {f f' : Nat → Bool} {o : Obj} (h : ∃ L, Holds w gs W f L) (he : ∀ i, f i = f' i) : ∃ L, Holds (w.alloc o) gs W f' L := by
  obtain ⟨L, hL⟩ := h
  exact ⟨L, (hL.congr (fun i _ => he i)).grow (box_below' w o)⟩

theorem holds_ids {w : World} {gs W : Nat} {f : Nat → Bool} {xs L : List Int} {q xn : Nat} (h : Holds w gs W (fun i => (f i || decide ((i : Int) ∈ xs.take q)) || (decide (i / 64 = xn / 64) && bitZ (IntKind.u64.wrap (2 ^ (xn % 64))) (i % 64))) L) (hx : xs[q]? = some (xn : Int)) :
    ∃ L, Holds w gs W (fun i => f i || decide ((i : Int) ∈ xs.take (q + 1))) L := by
  refine ⟨L, h.congr (fun i _ => ?_)⟩
  rw [bit_pow (Nat.mod_lt _ (by omega)), List.take_add_one, hx, Bool.or_assoc]
  congr 1
  rw [Bool.eq_iff_iff]
  simp only [Bool.or_eq_true, Bool.and_eq_true, decide_eq_true_eq, Option.toList, List.mem_append, List.mem_cons, List.not_mem_nil, or_false]
  constructor
  · rintro (h | ⟨h1, h2⟩)
    · exact .inl h
    · right; omega
  · rintro (h | h)
    · exact .inl h
    · right; omega

theorem holds_end {w : World} {gs W k : Nat} {Is Ss : List Sl} {xs xs' : List Int} {xa : Option Addr} {xc yc : Nat} {ys : List Int} (h : ∃ L, Holds w gs W (fun i => memTo Is Ss k i || decide ((i : Int) ∈ xs')) L) (he : xs' = xs) (hm : ∀ i, memTo Is Ss (k + 1) i = (memTo Is Ss k i || mem1 (xa, xc, xs) (none, yc, ys) i)) :
    ∃ L, Holds w gs W (memTo Is Ss (k + 1)) L := by
  obtain ⟨L, hL⟩ := h
  subst he
  exact ⟨L, hL.congr (fun i _ => by rw [hm i]; simp [mem1])⟩

theorem holds_words {w : World} {gs W : Nat} {f : Nat → Bool} {ys L : List Int} {q : Nat} {z : Int} (h : Holds w gs W (fun i => (f i || (decide (i / 64 < q) && bitOf ys i)) || (decide (i / 64 = q) && bitZ z (i % 64))) L) (hx : ys[q]? = some z) :
    ∃ L, Holds w gs W (fun i => f i || (decide (i / 64 < q + 1) && bitOf ys i)) L := by
  refine ⟨L, h.congr (fun i _ => ?_)⟩
  rw [Bool.or_assoc]
  congr 1
  by_cases e : i / 64 = q
  · have : bitOf ys i = bitZ z (i % 64) := by unfold bitOf; rw [e, List.getD, hx]; rfl
    simp [e, this]
  · have : (i / 64 < q + 1) ↔ (i / 64 < q) := by omega
    simp [e, this]

theorem holds_endw {w : World} {gs W k q : Nat} {Is Ss : List Sl} {xs ys : List Int} {xa : Option Addr} {y : Addr} {xc yc : Nat} (h : ∃ L, Holds w gs W (fun i => memTo Is Ss k i || (decide (i / 64 < q) && bitOf ys i)) L) (he : ys.length ≤ q) (hm : ∀ i, memTo Is Ss (k + 1) i = (memTo Is Ss k i || mem1 (xa, xc, xs) (some y, yc, ys) i)) :
    ∃ L, Holds w gs W (memTo Is Ss (k + 1)) L := by
  obtain ⟨L, hL⟩ := h
  refine ⟨L, hL.congr (fun i _ => ?_)⟩
  rw [hm i]
  congr 1
  have e : mem1 (xa, xc, xs) (some y, yc, ys) i = bitOf ys i := by simp [mem1]
  rw [e]
  by_cases hq : i / 64 < q
  · simp [hq]
  · have : bitOf ys i = false := by
      unfold bitOf
      rw [List.getD, List.getElem?_eq_none (by omega)]
      simp [bitZ]
    simp [this]

/-- What union answers when it answers by bits. -/
def UnionBits (Is Ss : List Sl) (n : Nat) (w : World) (e : Ending) (w' : World) : Prop :=
  ∃ gs, e = .returned (.agg #[.slice none 0 0, .slice (some ⟨gs, 0, none⟩) ((n + 63) / 64) ((n + 63) / 64)]) ∧ (∃ L, Holds w' gs ((n + 63) / 64) (memTo Is Ss Is.length) L) ∧ Below w.heap.size w w' ∧ w.heap.size ≤ gs

theorem holds_drew {w : World} {gs W : Nat} {f : Nat → Bool} (h : ∃ L, Holds w gs W f L) : ∃ L, Holds w.drew gs W f L := by
  obtain ⟨L, hL⟩ := h
  exact ⟨L, hL.row, hL.len, hL.words, hL.bit⟩

theorem Holds.boxed {w : World} {gs W : Nat} {f : Nat → Bool} {L : List Int} {p : Addr} {u : Value} (h : Holds w gs W f L) (hp : gs ≠ p.block) : Holds (w.setCell p u) gs W f L :=
  ⟨(Below.heap_setCell w p u gs hp).trans h.row, h.len, h.words, h.bit⟩

set_option maxRecDepth 100000 in
set_option maxHeartbeats 4000000 in
theorem union42_bits (g : Nat) (Is Ss : List Sl) (n : Nat) (w : World) (hn : n ≤ 65536) (hm : Is.length ≤ 131072) (hm1 : Is.length ≠ 1) (hS : Hid (Sets w g Is Ss)) (htot : total Is ≤ 1048576)
    (hb : Hid (∃ x ∈ Ss, x.1 ≠ none)) (hok : Hid (∀ (k : Nat) (x y : Sl), Is[k]? = some x → Ss[k]? = some y → (y.1 = none → ∀ v ∈ x.2.2, 0 ≤ v ∧ v < 64 * (((n + 63) / 64 : Nat) : Int)) ∧ (y.1 ≠ none → y.2.2.length ≤ (n + 63) / 64 ∧ Words y.2.2))) :
    Calls Try.prog 42 #[.slice (some ⟨g, 0, none⟩) Is.length Is.length, .int .i64 n] w (UnionBits Is Ss n w) := by
  have qnil := fun (w : World) (a : Option Addr) (n c n' c' : Nat) => run_neq_slice_nil_any w 29 _ a n c n' c' Try.underlying29
  have h1 : ((Is.length : Int) == 1) = false := beq_eq_false_iff_ne.2 (by omega)
  go_enter Try.func42, Try.ntmps42
  go_wp2
  have W0 := hid (box_below' w (.cells #[.slice none 0 0, .slice none 0 0] 60))
  go_loopw [6, 30] (fun h i wr => ∃ (k : Nat), k ≤ Is.length ∧ i = .int .i64 k ∧ h = .int .i64 (total (Is.take k)) ∧ Hid (∀ (j : Nat) (x : Sl), j < k → Ss[j]? = some x → x.1 = none) ∧ Hid (Below (w.heap.size + 1) (w.alloc (.cells #[.slice none 0 0, .slice none 0 0] 60)) wr)) (fun _ i _ => Is.length - (intOf i).toNat)
  case atStart => exact ⟨0, Nat.zero_le _, rfl, rfl, fun j x hj => by omega, Below.refl _ _⟩
  case round =>
    obtain ⟨k, hk1, rfl, rfl, hnone, hB⟩ := hrel
    by_cases hlt : k < Is.length
    · obtain ⟨⟨xa, xc, xs⟩, hx⟩ : ∃ x, Is[k]? = some x := ⟨_, List.getElem?_eq_getElem hlt⟩
      obtain ⟨⟨ya, yc, ys⟩, hy⟩ : ∃ x, Ss[k]? = some x := ⟨_, List.getElem?_eq_getElem (by rw [← hS.out.len]; exact hlt)⟩
      have hglt := hS.out.lt
      have hold : ∀ o, wr.cell? ⟨g, o, none⟩ = w.cell? ⟨g, o, none⟩ := fun o => (hB.out.cell (by show g < _; omega)).trans (W0.out.cell hglt)
      have hc0 : wr.cell? ⟨g, k * 2, none⟩ = some (.slice xa xs.length xc) := (hold _).trans (hS.out.ids k _ hx)
      have hc1 : wr.cell? ⟨g, k * 2 + 1, none⟩ = some (.slice ya ys.length yc) := (hold _).trans (hS.out.set k _ hy)
      have ht1 := total_take hx
      have ht2 := total_le (k + 1) Is
      have HX := hid hx
      have HY := hid hy
      simp only at ht1
      have HT := hid ht1
      have hsum : total (Is.take k) + xs.length ≤ 1048576 := by omega
      clear hx hy hold ht1 ht2
      cases ya with
      | none =>
        go_wp2
        exact ⟨⟨k + 1, by omega, by go_num, by rw [HT.out]; go_num, fun j x hj hx => by
          by_cases e : j = k
          · subst e; rw [HY.out] at hx; cases hx; rfl
          · exact hnone.out j x (by omega) hx, hB.out.alloc (by have := hB.out.size; simp at this; omega) _⟩, by simp [intOf]; omega⟩
      | some y =>
        obtain ⟨gs, hgs⟩ : ∃ gs, wr.heap.size + 1 = gs := ⟨_, rfl⟩
        have hgs1 : w.heap.size + 1 ≤ gs := by have := hB.out.size; simp at this; omega
        have hmk := make62_run n hn
        have hst := hid (show ∃ L, Holds ((wr.alloc (.cells #[.slice xa xs.length xc, .slice (some y) ys.length yc] 60)).alloc (.cells (madeCells #[.int .u64 0] ((n + 63) / 64)) 62)) gs ((n + 63) / 64) (memTo Is Ss 0) L from ⟨_, holds_made' _ _ (by simp; omega)⟩)
        have hbt := hid (show Below (w.heap.size + 1) (w.alloc (.cells #[.slice none 0 0, .slice none 0 0] 60)) ((wr.alloc (.cells #[.slice xa xs.length xc, .slice (some y) ys.length yc] 60)).alloc (.cells (madeCells #[.int .u64 0] ((n + 63) / 64)) 62)) from (hB.out.alloc (by have := hB.out.size; simp at this; omega) _).alloc (by have := hB.out.size; simp at this ⊢; omega) _)
        go_wp2
        go_loopw [67] (fun i wq => ∃ (k : Nat), k ≤ Is.length ∧ i = .int .i64 k ∧ Hid (∃ L, Holds wq gs ((n + 63) / 64) (memTo Is Ss k) L) ∧ Hid (Below (w.heap.size + 1) (w.alloc (.cells #[.slice none 0 0, .slice none 0 0] 60)) wq)) (fun i _ => Is.length - (intOf i).toNat)
        case atStart => exact ⟨0, Nat.zero_le _, rfl, hst, hbt⟩
        case round =>
          clear hB hst hbt hc0 hc1 HX HY HT hsum hnone hk1 hlt hgs hglt
          obtain ⟨k, hk1, rfl, hL, hB⟩ := hrel
          have hold : ∀ o, wr.cell? ⟨g, o, none⟩ = w.cell? ⟨g, o, none⟩ := fun o => (hB.out.cell (by show g < _; have := hS.out.lt; omega)).trans (W0.out.cell hS.out.lt)
          have hBw := hid (W0.out.trans (hB.out.mono (Nat.le_succ _)))
          by_cases hlt : k < Is.length
          · obtain ⟨⟨xa, xc, xs⟩, hx⟩ : ∃ x, Is[k]? = some x := ⟨_, List.getElem?_eq_getElem hlt⟩
            obtain ⟨⟨ya, yc, ys⟩, hy⟩ : ∃ x, Ss[k]? = some x := ⟨_, List.getElem?_eq_getElem (by rw [← hS.out.len]; exact hlt)⟩
            have hc0 : wr.cell? ⟨g, k * 2, none⟩ = some (.slice xa xs.length xc) := (hold _).trans (hS.out.ids k _ hx)
            have hc1 : wr.cell? ⟨g, k * 2 + 1, none⟩ = some (.slice ya ys.length yc) := (hold _).trans (hS.out.set k _ hy)
            have hxm := List.mem_of_getElem? hx
            have hym := List.mem_of_getElem? hy
            have hxl : xs.length ≤ 1048576 := Nat.le_trans (total_mem hxm) htot
            have hms := hid (fun i => memTo_succ hx hy i)
            have hxh := hid (hS.out.hI _ hxm)
            have hyh := hid (hS.out.hS _ hym)
            have hokk := hid (hok.out k _ _ hx hy)
            clear hold hx hy hxm hym
            cases ya with
            | none =>
              have hin := hid (hokk.out.1 rfl)
              go_wp2
              go_loopw [93] (fun i wq => ∃ (q : Nat), q ≤ xs.length ∧ i = .int .i64 q ∧ Hid (∃ L, Holds wq gs ((n + 63) / 64) (fun i => memTo Is Ss k i || decide ((i : Int) ∈ xs.take q)) L) ∧ Hid (Below (w.heap.size + 1) (w.alloc (.cells #[.slice none 0 0, .slice none 0 0] 60)) wq)) (fun i _ => xs.length - (intOf i).toNat)
              case atStart => exact ⟨0, Nat.zero_le _, rfl, holds_next hL.out (fun i => by simp), hB.out.alloc (by have := hB.out.size; simp at this; omega) _⟩
              case round =>
                clear hL hB hc0 hc1 hyh hBw
                obtain ⟨q, hq1, rfl, hL, hB⟩ := hrel
                by_cases hqt : q < xs.length
                · obtain ⟨xv, hxv⟩ : ∃ x, xs[q]? = some x := ⟨_, List.getElem?_eq_getElem hqt⟩
                  obtain ⟨hv0, hv1⟩ := hin.out xv (List.mem_of_getElem? hxv)
                  obtain ⟨xn, rfl⟩ := Int.eq_ofNat_of_zero_le hv0
                  obtain ⟨b, off, rfl, hb, hcell⟩ := (hxh.out.below (W0.out.trans (hB.out.mono (Nat.le_succ _)))).at (k := q) (x := .int .i64 xn) (by simp [hxv])
                  obtain ⟨L, hLL⟩ := hL.out
                  have hxq : xn / 64 < L.length := by have := hLL.len; omega
                  have hxq2 : xn / 64 < (n + 63) / 64 := by omega
                  have hxq3 : (xn : Int) / 64 < ((n : Int) + 63) / 64 := by omega
                  have hcl := hLL.row.cell hxq
                  have hfr := hLL.row.free (xn / 64)
                  have hor := hLL.or (xn / 64) hxq (IntKind.u64.wrap (2 ^ (xn % 64))) (wrap_pow_range _).1 (wrap_pow_range _).2
                  have hnx := hid (holds_drew (holds_ids hor hxv))
                  clear hor hxv hLL hL
                  go_wp2
                  go_region
                  go_wp2
                  exact ⟨⟨q + 1, by omega, by go_num, hnx.out, (hB.out.setCell (by omega) _).drew⟩, by simp [intOf]; omega⟩
                · have hfin := hid (holds_end hL.out (show xs.take q = xs from List.take_of_length_le (by omega)) hms.out)
                  go_wp2
                  exact ⟨⟨k + 1, by omega, by go_num, hfin, hB⟩, by simp [intOf]; omega⟩
            | some y =>
              obtain ⟨hyl, hyw⟩ := hokk.out.2 (by simp)
              have hyw := hid hyw
              simp only at hyl
              go_wp2
              go_loopw [77] (fun i wq => ∃ (q : Nat), q ≤ ys.length ∧ i = .int .i64 q ∧ Hid (∃ L, Holds wq gs ((n + 63) / 64) (fun i => memTo Is Ss k i || (decide (i / 64 < q) && bitOf ys i)) L) ∧ Hid (Below (w.heap.size + 1) (w.alloc (.cells #[.slice none 0 0, .slice none 0 0] 60)) wq)) (fun i _ => ys.length - (intOf i).toNat)
              case atStart => exact ⟨0, Nat.zero_le _, rfl, holds_next hL.out (fun i => by simp), hB.out.alloc (by have := hB.out.size; simp at this; omega) _⟩
              case round =>
                clear hL hB hc0 hc1 hxh hBw
                obtain ⟨q, hq1, rfl, hL, hB⟩ := hrel
                by_cases hqt : q < ys.length
                · obtain ⟨z, hzv⟩ : ∃ x, ys[q]? = some x := ⟨_, List.getElem?_eq_getElem hqt⟩
                  obtain ⟨hz0, hz1⟩ := hyw.out z (List.mem_of_getElem? hzv)
                  obtain ⟨b, off, hya, hb, hcell⟩ := (hyh.out.below (W0.out.trans (hB.out.mono (Nat.le_succ _)))).at (k := q) (x := .int .u64 z) (by simp [hzv])
                  obtain rfl := Option.some.inj hya
                  obtain ⟨L, hLL⟩ := hL.out
                  have hxq : q < L.length := by have := hLL.len; omega
                  have hxq2 : q < (n + 63) / 64 := by omega
                  have hxq3 : (q : Int) < ((n : Int) + 63) / 64 := by omega
                  have hcl := hLL.row.cell hxq
                  have hfr := hLL.row.free q
                  have hor := hLL.or q hxq z hz0 hz1
                  have hnx := hid (holds_words hor hzv)
                  clear hor hzv hLL hL
                  go_wp2
                  exact ⟨⟨q + 1, by omega, by go_num, hnx.out, hB.out.setCell (by omega) _⟩, by simp [intOf]; omega⟩
                · have hfin := hid (holds_endw hL.out (show ys.length ≤ q by omega) hms.out)
                  go_wp2
                  exact ⟨⟨k + 1, by omega, by go_num, hfin, hB⟩, by simp [intOf]; omega⟩
          · obtain rfl : k = Is.length := by omega
            have hr0 : wr.cell? ⟨w.heap.size, 0, none⟩ = some (.slice none 0 0) := (hB.out.cell (by show w.heap.size < _; omega)).trans (by simp only [World.cell?]; rw [(MapKept.heap_alloc w _).1]; rfl)
            have hr1 : wr.cell? ⟨w.heap.size, 1, none⟩ = some (.slice none 0 0) := (hB.out.cell (by show w.heap.size < _; omega)).trans (by simp only [World.cell?]; rw [(MapKept.heap_alloc w _).1]; rfl)
            have hrf : wr.frozen? ⟨w.heap.size, 0, none⟩ = false := (hB.out.frozen (by show w.heap.size < _; omega)).trans (by simp only [World.frozen?]; rw [(MapKept.heap_alloc w _).1]; rfl)
            have hrf1 : wr.frozen? ⟨w.heap.size, 1, none⟩ = false := (hB.out.frozen (by show w.heap.size < _; omega)).trans (by simp only [World.frozen?]; rw [(MapKept.heap_alloc w _).1]; rfl)
            have hs0 := World.cell?_setCell_same wr ⟨w.heap.size, 0, none⟩ (.slice none 0 0) hr0
            have hs1 := World.cell?_setCell_same (wr.setCell ⟨w.heap.size, 0, none⟩ (.slice none 0 0)) ⟨w.heap.size, 1, none⟩ (.slice (some ⟨gs, 0, none⟩) ((n + 63) / 64) ((n + 63) / 64)) ((World.cell?_setCell_other _ _ _ _ (by simp)).trans hr1)
            have hbl : Below w.heap.size w ((wr.setCell ⟨w.heap.size, 0, none⟩ (.slice none 0 0)).setCell ⟨w.heap.size, 1, none⟩ (.slice (some ⟨gs, 0, none⟩) ((n + 63) / 64) ((n + 63) / 64))) := (hBw.out.setCell (Nat.le_refl _) _).setCell (Nat.le_refl _) _
            have hbl := hid hbl
            obtain ⟨L, hLL⟩ := hL.out
            have hfin := hid (Holds.boxed (u := .slice (some ⟨gs, 0, none⟩) ((n + 63) / 64) ((n + 63) / 64)) (p := ⟨w.heap.size, 1, none⟩) (Holds.boxed (u := .slice none 0 0) (p := ⟨w.heap.size, 0, none⟩) hLL (by simp; omega)) (by simp; omega))
            clear hLL
            go_wp2
            refine bodyPost_ret (v := .agg #[.slice none 0 0, .slice (some ⟨gs, 0, none⟩) ((n + 63) / 64) ((n + 63) / 64)]) (by simp [results, Try.results42, go_sem, hs0, hs1]) rfl ⟨gs, rfl, ⟨L, hfin.out⟩, hbl.out, by omega⟩
    · exfalso
      obtain ⟨x, hx, hne⟩ := hb.out
      obtain ⟨j, hj, e⟩ := List.getElem_of_mem hx
      exact hne (hnone.out j x (by have := hS.out.len; omega) (by rw [List.getElem?_eq_getElem hj, e]))
end Go.Proofs.Qxb6603130a
