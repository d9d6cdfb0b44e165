import Derived.Test.Qxb6603130aKey
import Derived.Deep.QuietTactic
import Derived.BigQuiet
namespace Go.Proofs.Qxb6603130a
open Go.RowKit Go.Maps Go.WideMaps

theorem app_str (w : World) (base : Nat) (v : Value) (n : Nat) (xs : List Value) (ty : TypeId) (hown : w.ownsRow base 5 1 v n xs) (s : ByteArray) (hb : n + s.size ≤ 140737488355328) (hbase : base ≤ w.heap.size) :
    ∃ v' w', (Builtin.append_ #[43, 9] ty #[v, .string s]).run Try.prog w = .ok v' w' ∧ w'.ownsRow base 5 1 v' (n + s.size) (xs ++ Lib.strCells s) ∧ w.grownBy w' v.ownBlock ∧ (∀ k, v'.ownBlock = some k → v.ownBlock = some k ∨ w.heap.size ≤ k) := by
  obtain ⟨i, hi, h0, h1, h2⟩ := info_parts Try.info5
  obtain ⟨v', w', hr, r1, r2, r3⟩ := Lib.run_append_own_string (P := Try.prog) w base 43 9 ty 5 i Try.underlying43 Try.underlying9 hi h0 h1 h2 v n xs hown s (by unfold maxLen; omega) hb hbase
  refine ⟨v', w', hr, r1, r2, ?_⟩
  have hxl : xs.length = n := by simpa using hown.1
  rcases hown.2 with ⟨rfl, rfl⟩ | ⟨g, cap, cur, rfl, hbg, hg, hnc, hcm, hcs, htake⟩
  · have hx : xs = [] := List.eq_nil_of_length_eq_zero hxl
    subst hx
    obtain ⟨v1, w1, hr1, q1, q2, q3⟩ := Lib.run_append_own_string (P := Try.prog) w w.heap.size 43 9 ty 5 i Try.underlying43 Try.underlying9 hi h0 h1 h2 (.slice none 0 0) 0 [] (World.ownsRow_nil _ _ _ _) s (by unfold maxLen; omega) hb (Nat.le_refl _)
    rw [hr] at hr1
    cases hr1
    intro k hk
    exact .inr (q1.lt k hk).1
  · by_cases hroom : n + s.size ≤ cap
    · have hr1 := Lib.run_append_room_string (P := Try.prog) w 43 9 ty 5 i Try.underlying43 Try.underlying9 hi h1 g n cap cur hg s hroom (by rw [hcs]; omega)
      rw [hr] at hr1
      cases hr1
      intro k hk
      exact .inl hk
    · have holds : ∀ j u, xs[j]? = some u → w.cell? ((⟨g, 0, none⟩ : Addr).add j) = some u := hown.cells (g := g) rfl
      have hr1 := Lib.run_append_grow_string (P := Try.prog) w 43 9 ty 5 i (.int .u8 0) Try.underlying43 Try.underlying9 hi h0 ⟨g, 0, none⟩ n cap xs (by rw [h1]; simpa using hxl) holds s (by omega) (by omega) (by rw [h2]; exact growslice_fits (by omega) (by omega))
      rw [hr] at hr1
      cases hr1
      intro k hk
      cases hk
      exact .inr (Nat.le_refl _)

theorem wpList_app_str {ops : Array Oper} {rest : List Oper} {o : Oper} {a : Act} {Q : Exit → Act → World → Prop} (w : World) (hgd : o.guard = none) (sl x : Operand)
    (ho : o.op = .call { callee := .builtin .append, args := #[sl, x], argTypes := #[43, 9] })
    (v : Value) (n : Nat) (xs : List Value) (hs : a.eval sl = v) (hown : w.ownsRow 0 5 1 v n xs) (s : ByteArray) (hx : a.eval x = .string s) (N : Nat) (hN : n + s.size = N) (hb : N ≤ 140737488355328) (h0 : 0 < N)
    (h : ∀ g cap w', w'.ownsRow 0 5 1 (.slice (some ⟨g, 0, none⟩) N cap) N (xs ++ Lib.strCells s) → w.grownBy w' v.ownBlock → (v.ownBlock = some g ∨ w.heap.size ≤ g) → wpList Try.prog ops Q rest (a.put o.dst (.slice (some ⟨g, 0, none⟩) N cap)) w') : wpList Try.prog ops Q (o :: rest) a w := by
  subst hN
  refine wpList_plain hgd fun K hK => ?_
  obtain ⟨v', w', hr, h2, h3, h4⟩ := app_str w 0 v n xs o.type hown s hb (Nat.zero_le _)
  unfold Oper.wp execOp
  simp only [ho, resolve, invoke, builtin, Sem.run_bind, Sem.run_pure, Result.andThen_ok, List.map_toArray, List.map_cons, List.map_nil, hs, hx, hr]
  have h2' := h2
  rcases h2.2 with ⟨_, e⟩ | ⟨g, cap, cur, rfl, _⟩
  · omega
  · exact hK _ _ (h g cap w' h2' h3 (h4 g rfl))

theorem push_list (l : List UInt8) : ∀ s : ByteArray, (l.map fun b => (b.toNat : Int)).foldl (fun r n => r.push (UInt8.ofNat n.toNat)) s = ⟨s.data ++ l.toArray⟩ := by
  induction l with
  | nil => intro s; simp
  | cons b l ih =>
    intro s
    simp only [List.map_cons, List.foldl_cons, Int.toNat_natCast, UInt8.ofNat_toNat]
    rw [ih]
    congr 1
    simp [ByteArray.push]

/-- string(b), b a row of bytes of the call's own. -/
theorem conv_own (w : World) (g n c : Nat) (l : List UInt8) (hn : l.length = n) (hown : w.ownsRow 0 5 1 (.slice (some ⟨g, 0, none⟩) n c) n (l.map fun b => Value.int .u8 b.toNat)) : (convert 43 9 (.slice (some ⟨g, 0, none⟩) n c)).run Try.prog w = .ok (.string ⟨l.toArray⟩) w := by
  rw [run_convert_bytes_string w 43 9 5 _ _ _ Try.underlying43 Try.underlying5 Try.underlying9]
  rw [run_bytesToString w ⟨g, 0, none⟩ n c (l.map fun b => (b.toNat : Int)) ?_]
  · rw [push_list]; simp
  · have hc := hown.cells (g := g) rfl
    have := run_firstCells_some (P := Try.prog) w 1 n ⟨g, 0, none⟩ n c (l.map fun b => Value.int .u8 b.toNat) (by simp [hn]) hc
    simp [Builtin.firstCells] at this
    rw [List.map_map]
    exact this

structure But (S : Nat → Prop) (w w' : World) : Prop where
  os : w'.os = w.os
  tape : w'.tape = w.tape
  output : w'.output = w.output
  size : w.heap.size ≤ w'.heap.size
  block : ∀ k, k < w.heap.size → ¬ S k → w'.heap[k]? = w.heap[k]?

theorem But.trans {S : Nat → Prop} {a b c : World} (h : But S a b) (k : But S b c) : But S a c :=
  ⟨k.os.trans h.os, k.tape.trans h.tape, k.output.trans h.output, Nat.le_trans h.size k.size, fun i hi hs => (k.block i (Nat.lt_of_lt_of_le hi h.size) hs).trans (h.block i hi hs)⟩

theorem But.mono {S T : Nat → Prop} {w w' : World} (h : But S w w') (hst : ∀ k, S k → T k) : But T w w' := ⟨h.os, h.tape, h.output, h.size, fun k hk hs => h.block k hk (fun q => hs (hst k q))⟩

theorem But.of_grown {S : Nat → Prop} {w w' : World} {row : Option Nat} (h : w.grownBy w' row) (hr : ∀ k, row = some k → S k) : But S w w' :=
  ⟨h.os, h.tape, h.output, h.size, fun k hk hs => h.block k hk (fun e => hs (hr k e.symm))⟩

theorem But.of_below {S : Nat → Prop} {w w' : World} (h : Below w.heap.size w w') : But S w w' := ⟨h.os, h.tape, h.output, h.size, fun k hk _ => h.block k hk⟩

theorem But.below {S : Nat → Prop} {w w' : World} {B : Nat} (h : But S w w') (hB : B ≤ w.heap.size) (hs : ∀ k, S k → B ≤ k) : Below B w w' :=
  ⟨h.os, h.tape, h.output, h.size, fun k hk => h.block k (by omega) (fun q => by have := hs k q; omega)⟩

theorem But.setCell {S : Nat → Prop} (w : World) {p : Addr} (hp : S p.block) (u : Value) : But S w (w.setCell p u) :=
  ⟨rfl, rfl, rfl, by simp [World.setCell], fun k _ hs => Below.heap_setCell _ _ _ _ (fun e => hs (e ▸ hp))⟩

theorem buf_keep {w w1 w2 : World} {P N : ByteArray} {m v0 : Value} {pb g1 c1 n1 : Nat} (hpb : pb < w.heap.size) (hgp : ∀ k, v0.ownBlock = some k → k < w.heap.size ∧ k ≠ pb)
    (h1 : (w.alloc (.cells #[.string P, .string N, m] 67)).grownBy w1 v0.ownBlock) (hl1 : v0.ownBlock = some g1 ∨ (w.alloc (.cells #[.string P, .string N, m] 67)).heap.size ≤ g1)
    (h2 : w1.grownBy w2 (Value.ownBlock (.slice (some ⟨g1, 0, none⟩) n1 c1))) :
    w2.cell? ⟨pb, 0, none⟩ = w.cell? ⟨pb, 0, none⟩ ∧ w2.frozen? ⟨pb, 0, none⟩ = w.frozen? ⟨pb, 0, none⟩ ∧ w2.cell? ⟨w.heap.size, 2, none⟩ = some m ∧ But (fun k => v0.ownBlock = some k) w w2 := by
  have e : (w.alloc (.cells #[.string P, .string N, m] 67)).heap.size = w.heap.size + 1 := by simp
  have key : ∀ k, k < w.heap.size + 1 → v0.ownBlock ≠ some k → w2.heap[k]? = (w.alloc (.cells #[.string P, .string N, m] 67)).heap[k]? := by
    intro k hk hkg
    have a1 := h1.block k (by omega) (Ne.symm hkg)
    have a2 := h2.block k (by have := h1.size; omega) (by
      simp only [Value.ownBlock]
      intro q
      cases q
      rcases hl1 with h | h
      · exact hkg h
      · omega)
    exact a2.trans a1
  have old : ∀ k, k < w.heap.size → v0.ownBlock ≠ some k → w2.heap[k]? = w.heap[k]? := fun k hk hkg => (key k (by omega) hkg).trans (Below.heap_alloc _ _ _ hk)
  have hpn : v0.ownBlock ≠ some pb := fun q => (hgp pb q).2 rfl
  refine ⟨World.cell?_of_block (old pb hpb hpn), World.frozen?_of_block (old pb hpb hpn), ?_, ⟨h2.os.trans h1.os, h2.tape.trans h1.tape, h2.output.trans h1.output, by have := h1.size; have := h2.size; omega, old⟩⟩
  rw [World.cell?_of_block (w := w.alloc (.cells #[.string P, .string N, m] 67)) (key w.heap.size (by omega) (fun q => by have := (hgp _ q).1; omega))]
  simp

theorem key_once {es : List MapEntry} (h : es.Pairwise (fun x y => x.key ≠ y.key)) {x y : MapEntry} (hx : x ∈ es) (hy : y ∈ es) (he : x.key = y.key) : x = y := by
  obtain ⟨i, hi, rfl⟩ := List.getElem_of_mem hx
  obtain ⟨j, hj, rfl⟩ := List.getElem_of_mem hy
  rw [List.pairwise_iff_getElem] at h
  rcases Nat.lt_trichotomy i j with q | q | q
  · exact absurd he (h i j hi hj q)
  · subst q; rfl
  · exact absurd he.symm (h j i hj hi q)

theorem MapIs.looks {w : World} {m : Value} {f : ByteArray → Bool} (h : MapIs w m f) (s : ByteArray) (hs : s.size ≤ maxLen) :
    ∃ v : Value, ∀ n, (Instr.lookup 65 m (.string s) true).run Try.prog (w.drewN n) = .ok (.tuple #[v, .bool (f s)]) (w.drewN n) := by
  have hkey : keyOf Try.prog 9 (.string s) = some (.string s.data.toList) := keyOf_string_mk Try.underlying9 hs
  rcases h with ⟨rfl, hf⟩ | ⟨b, n, D, rfl, hown, hf⟩
  · exact ⟨_, fun n => by rw [hf]; exact Maps.look_nil true keyed Try.underlying65 (zero41 _) hkey⟩
  · obtain ⟨es, clock, hb, F, _, rfl⟩ := hown
    have hn : es.toList.Pairwise (fun x y => x.key ≠ y.key) := ((MapKept.stamped_iff es clock).1 F.stamped).2.2
    rcases Maps.fit_look true keyed Try.underlying65 (zero41 w) hb F hkey with ⟨_, h2, hat⟩ | ⟨e0, y, h1, h2, _, _, hat, _⟩
    · refine ⟨.slice none 0 0, fun n => ?_⟩
      rcases Maps.fit_look true keyed Try.underlying65 (zero41 (w.drewN n)) (b := b) hb F hkey with ⟨q1, _, hat'⟩ | ⟨e1, y1, q1, q2, _⟩
      · rw [← hf, Maps.has_false_of_atKey hat]; exact q1
      · exact absurd q2 (h2 e1 q1)
    · refine ⟨e0.val, fun n => ?_⟩
      rcases Maps.fit_look true keyed Try.underlying65 (zero41 (w.drewN n)) (b := b) hb F hkey with ⟨_, q2, _⟩ | ⟨e1, y1, q1, q2, q3, _⟩
      · exact absurd h2 (q2 e0 h1)
      · obtain rfl := key_once hn h1 q1 (h2.trans q2.symm)
        rw [← hf, Maps.has_true_of_atKey hat]; exact q3

/-- What is known behind the two appends and the store of the new slice. -/
theorem buf_end {w w2 : World} {m v0 : Value} {f : ByteArray → Bool} {pb g2 c2 N2 : Nat} {R nam : ByteArray} (hmg : ∀ k, v0.ownBlock = some k → mblock m ≠ some k) (hmp : mblock m ≠ some pb)
    (hm : MapIs w m f) (hB : But (fun k => v0.ownBlock = some k) w w2) (hN : R.size + nam.size = N2) (hb : N2 ≤ 4194304) (hg2 : g2 ≠ pb)
    (hown : w2.ownsRow 0 5 1 (.slice (some ⟨g2, 0, none⟩) N2 c2) N2 ([] ++ Lib.strCells R ++ Lib.strCells nam)) :
    ∃ (S : ByteArray) (vf : Value), S = R ++ nam ∧
      (∀ n, (convert 43 9 (.slice (some ⟨g2, 0, none⟩) N2 c2)).run Try.prog ((w2.setCell ⟨pb, 0, none⟩ (.slice (some ⟨g2, 0, none⟩) N2 c2)).drewN n) = .ok (.string S) ((w2.setCell ⟨pb, 0, none⟩ (.slice (some ⟨g2, 0, none⟩) N2 c2)).drewN n)) ∧
      (∀ n, (Instr.lookup 65 m (.string S) true).run Try.prog ((w2.setCell ⟨pb, 0, none⟩ (.slice (some ⟨g2, 0, none⟩) N2 c2)).drewN n) = .ok (.tuple #[vf, .bool (f S)]) ((w2.setCell ⟨pb, 0, none⟩ (.slice (some ⟨g2, 0, none⟩) N2 c2)).drewN n)) ∧
      (w2.setCell ⟨pb, 0, none⟩ (.slice (some ⟨g2, 0, none⟩) N2 c2)).ownsRow 0 5 1 (.slice (some ⟨g2, 0, none⟩) N2 c2) N2 (Lib.strCells S) := by
  have hsz : (R ++ nam).size = N2 := by rw [ByteArray.size_append, hN]
  have e : [] ++ Lib.strCells R ++ Lib.strCells nam = (R ++ nam).data.toList.map fun b => Value.int .u8 b.toNat := by simp [Lib.strCells]
  rw [e] at hown
  have hown' : (w2.setCell ⟨pb, 0, none⟩ (.slice (some ⟨g2, 0, none⟩) N2 c2)).ownsRow 0 5 1 (.slice (some ⟨g2, 0, none⟩) N2 c2) N2 ((R ++ nam).data.toList.map fun b => Value.int .u8 b.toNat) := by
    obtain ⟨q1, q2⟩ := hown
    refine ⟨q1, ?_⟩
    rcases q2 with q2 | ⟨g, cap, cur, hv, hg, hh, r⟩
    · exact .inl q2
    · cases hv
      exact .inr ⟨_, _, cur, rfl, hg, by rw [Below.heap_setCell _ _ _ _ hg2]; exact hh, r⟩
  have hm' : MapIs (w2.setCell ⟨pb, 0, none⟩ (.slice (some ⟨g2, 0, none⟩) N2 c2)) m f := hm.kept (fun b hb hlt => by
    rw [Below.heap_setCell _ _ _ _ (fun q => hmp (by rw [hb, q]))]
    exact hB.block b hlt (fun q => hmg b q hb))
  obtain ⟨vf, hvf⟩ := hm'.looks (R ++ nam) (by rw [hsz]; unfold maxLen; omega)
  refine ⟨R ++ nam, vf, rfl, fun n => ?_, hvf, hown'⟩
  have := conv_own ((w2.setCell ⟨pb, 0, none⟩ (.slice (some ⟨g2, 0, none⟩) N2 c2)).drewN n) g2 N2 c2 (R ++ nam).data.toList (by rw [← hsz]; rfl) hown'
  rw [Lib.mk_data] at this
  exact this

theorem loc_two {w w1 : World} {P N : ByteArray} {m v0 : Value} {pb g1 g2 n1 c1 : Nat} {row : Option Nat} (hpb : pb < w.heap.size) (hgp : ∀ k, v0.ownBlock = some k → k < w.heap.size ∧ k ≠ pb)
    (h1 : (w.alloc (.cells #[.string P, .string N, m] 67)).grownBy w1 row) (hl1 : v0.ownBlock = some g1 ∨ (w.alloc (.cells #[.string P, .string N, m] 67)).heap.size ≤ g1)
    (hl2 : Value.ownBlock (.slice (some ⟨g1, 0, none⟩) n1 c1) = some g2 ∨ w1.heap.size ≤ g2) : g2 ≠ pb := by
  have e : (w.alloc (.cells #[.string P, .string N, m] 67)).heap.size = w.heap.size + 1 := by simp
  have hs := h1.size
  intro hh
  rcases hl2 with q | q
  · obtain rfl : g1 = g2 := by simpa [Value.ownBlock] using q
    rcases hl1 with q | q
    · exact (hgp _ q).2 hh
    · omega
  · omega

theorem But.drewN {S : Nat → Prop} {a w : World} (h : But S a w) (n : Nat) : But S a (w.drewN n) := ⟨h.os, h.tape, h.output, h.size, h.block⟩

theorem hid {p : Prop} (h : p) : Hid p := h

/-- The answer where the buffer is used. -/
def ans6 (f : ByteArray → Bool) (S : ByteArray) : Value := if f S then .tuple #[.string S, .bool true] else .tuple #[.string ByteArray.empty, .bool false]

structure Post6 (w w' : World) (v0 : Value) (pb : Nat) (S : ByteArray) : Prop where
  but : But (fun k => k = pb ∨ v0.ownBlock = some k) w w'
  buf : ∃ g c, w'.cell? ⟨pb, 0, none⟩ = some (.slice (some ⟨g, 0, none⟩) S.size c) ∧ w'.ownsRow 0 5 1 (.slice (some ⟨g, 0, none⟩) S.size c) S.size (Lib.strCells S)

set_option maxRecDepth 100000 in
set_option maxHeartbeats 1000000 in
theorem key_6 (P N pre name : ByteArray) (m : Value) (f : ByteArray → Bool) (pb : Nat) (g c n : Nat) (w : World) (hn : name.size ≤ 2097152) (hpre : pre.size ≤ 2097152) (h1 : ¬ pre.size < P.size) (hb : Hid (begins pre P = true))
    (he : (pre.extract P.size pre.size).toList.isEmpty = false) (hm : Hid (MapIs w m f))
    (hp : w.cell? ⟨pb, 0, none⟩ = some (.slice (some ⟨g, 0, none⟩) n c)) (hpf : w.frozen? ⟨pb, 0, none⟩ = false) (_hnc : n ≤ c) (hpb : pb < w.heap.size)
    (hown : w.ownsRow 0 5 1 (.slice (some ⟨g, 0, none⟩) 0 c) 0 []) (hgp : g ≠ pb) (hmg : mblock m ≠ some g) (hmp : mblock m ≠ some pb) :
    Calls Try.prog 45 #[.agg #[.string P, .string N, m], .string pre, .string name, .pointer (some ⟨pb, 0, none⟩)] w fun e w' => e = .returned (ans6 f (pre.extract P.size pre.size ++ name)) ∧ Post6 w w' (.slice (some ⟨g, 0, none⟩) 0 c) pb (pre.extract P.size pre.size ++ name) := by
  have hex : P.size < pre.size := by
    rcases Nat.lt_or_ge P.size pre.size with h | h
    · exact h
    · exfalso
      rw [Lib.extract_toList] at he
      have : pre.size - P.size = 0 := by omega
      simp [this] at he
  have hg : g < w.heap.size := (hown.lt g rfl).2
  have HG : Hid (∀ k, (Value.slice (some ⟨g, 0, none⟩) 0 c).ownBlock = some k → k < w.heap.size ∧ k ≠ pb) := fun k hk => by cases hk; exact ⟨hg, hgp⟩
  have HM : Hid (∀ k, (Value.slice (some ⟨g, 0, none⟩) 0 c).ownBlock = some k → mblock m ≠ some k) := fun k hk => by cases hk; exact hmg
  go_enter Try.func45, Try.ntmps45
  go_wp2_with fail
  refine (cut51_yes pre P _ hb).mono ?_
  rintro e w' ⟨rfl, rfl⟩
  go_wp2_with (at_builtin; first
    | (refine wpList_app_str _ rfl _ _ rfl (.slice (some ⟨g, 0, none⟩) 0 c) 0 [] rfl (hown.alloc _) (pre.extract P.size pre.size) rfl (pre.size - P.size) (by rw [ByteArray.size_extract]; omega) (by omega) (by omega) ?_; intro g1 c1 w1 hown1 hgr1 hloc1)
    | (refine wpList_app_str _ rfl _ _ rfl _ _ _ rfl hown1 name rfl (pre.size - P.size + name.size) rfl (by omega) (by omega) ?_; intro g2 c2 w2 hown2 hgr2 hloc2
       obtain ⟨k1, k2, k3, k4⟩ := buf_keep hpb HG.out hgr1 hloc1 hgr2
       have hg2 : g2 ≠ pb := loc_two hpb HG.out hgr1 hloc1 hloc2
       obtain ⟨S, vf, hS, hconv, hlook, hend⟩ := buf_end HM.out hmp hm.out k4 (R := pre.extract P.size pre.size) (nam := name) (by rw [ByteArray.size_extract]; omega) (by omega) hg2 hown2
       have HS := hid hS
       have HE := hid hend
       have K4 := hid k4
       rw [hp] at k1
       rw [hpf] at k2
       clear hS hend k4 hown2 hgr2 hloc2))
  go_quiet (fail)
  have hsz : S.size = pre.size - P.size + name.size := by rw [HS.out, ByteArray.size_append, ByteArray.size_extract]; omega
  have HZ := hid hsz
  clear hsz
  cases hf : f S
  all_goals
    have HF := hid hf
    go_wp2
    go_ret2
    rw [← HS.out]
    refine ⟨?_, ⟨((K4.out.mono (fun k hk => .inr hk)).trans (But.setCell (p := ⟨pb, 0, none⟩) w2 (Or.inl rfl) _)).drewN _, g2, c2, ?_⟩⟩
    · simp [ans6, HF.out]; try rfl
    · rw [HZ.out]
      exact ⟨World.cell?_setCell_same _ _ _ k1, HE.out⟩
set_option maxRecDepth 100000 in
set_option maxHeartbeats 1000000 in
theorem key_6nil (P N pre name : ByteArray) (m : Value) (f : ByteArray → Bool) (pb : Nat) (w : World) (hn : name.size ≤ 2097152) (hpre : pre.size ≤ 2097152) (h1 : ¬ pre.size < P.size) (hb : Hid (begins pre P = true))
    (he : (pre.extract P.size pre.size).toList.isEmpty = false) (hm : Hid (MapIs w m f))
    (hp : w.cell? ⟨pb, 0, none⟩ = some (.slice none 0 0)) (hpf : w.frozen? ⟨pb, 0, none⟩ = false) (hpb : pb < w.heap.size)
    (hmp : mblock m ≠ some pb) :
    Calls Try.prog 45 #[.agg #[.string P, .string N, m], .string pre, .string name, .pointer (some ⟨pb, 0, none⟩)] w fun e w' => e = .returned (ans6 f (pre.extract P.size pre.size ++ name)) ∧ Post6 w w' (.slice none 0 0) pb (pre.extract P.size pre.size ++ name) := by
  have hex : P.size < pre.size := by
    rcases Nat.lt_or_ge P.size pre.size with h | h
    · exact h
    · exfalso
      rw [Lib.extract_toList] at he
      have : pre.size - P.size = 0 := by omega
      simp [this] at he
  have HG : Hid (∀ k, (Value.slice none 0 0).ownBlock = some k → k < w.heap.size ∧ k ≠ pb) := fun k hk => by cases hk
  have HM : Hid (∀ k, (Value.slice none 0 0).ownBlock = some k → mblock m ≠ some k) := fun k hk => by cases hk
  go_enter Try.func45, Try.ntmps45
  go_wp2_with fail
  refine (cut51_yes pre P _ hb).mono ?_
  rintro e w' ⟨rfl, rfl⟩
  go_wp2_with (at_builtin; first
    | (refine wpList_app_str _ rfl _ _ rfl (.slice none 0 0) 0 [] rfl (World.ownsRow_nil _ _ _ _) (pre.extract P.size pre.size) rfl (pre.size - P.size) (by rw [ByteArray.size_extract]; omega) (by omega) (by omega) ?_; intro g1 c1 w1 hown1 hgr1 hloc1)
    | (refine wpList_app_str _ rfl _ _ rfl _ _ _ rfl hown1 name rfl (pre.size - P.size + name.size) rfl (by omega) (by omega) ?_; intro g2 c2 w2 hown2 hgr2 hloc2
       obtain ⟨k1, k2, k3, k4⟩ := buf_keep hpb HG.out hgr1 hloc1 hgr2
       have hg2 : g2 ≠ pb := loc_two hpb HG.out hgr1 hloc1 hloc2
       obtain ⟨S, vf, hS, hconv, hlook, hend⟩ := buf_end HM.out hmp hm.out k4 (R := pre.extract P.size pre.size) (nam := name) (by rw [ByteArray.size_extract]; omega) (by omega) hg2 hown2
       have HS := hid hS
       have HE := hid hend
       have K4 := hid k4
       rw [hp] at k1
       rw [hpf] at k2
       clear hS hend k4 hown2 hgr2 hloc2))
  go_quiet (fail)
  have hsz : S.size = pre.size - P.size + name.size := by rw [HS.out, ByteArray.size_append, ByteArray.size_extract]; omega
  have HZ := hid hsz
  clear hsz
  cases hf : f S
  all_goals
    have HF := hid hf
    go_wp2
    go_ret2
    rw [← HS.out]
    refine ⟨?_, ⟨((K4.out.mono (fun k hk => .inr hk)).trans (But.setCell (p := ⟨pb, 0, none⟩) w2 (Or.inl rfl) _)).drewN _, g2, c2, ?_⟩⟩
    · simp [ans6, HF.out]; try rfl
    · rw [HZ.out]
      exact ⟨World.cell?_setCell_same _ _ _ k1, HE.out⟩
end Go.Proofs.Qxb6603130a
