import Derived.Test.Qxb6603130aLaw3M
import Derived.Test.Qxb6603130aOpen
import Derived.Test.Qxb6603130aClosed3
import Derived.OpenShut
namespace Go.Proofs.Qxb6603130a
open Go.ChangeShapes Go.WideShapes Go.ChangeAt Go.RowKit


section
variable {H : Type} {enc : TypeId × Value → H} {W : World}

/-- A slice of slices of numbers that came in. -/
theorem rd_intss {t e : TypeId} {k : IntKind} {u : TypeId} (ht : Try.prog.underlying t = some (.slice e)) (hc : Try.prog.cellsOf e = 1) (he : Try.prog.underlying e = some (.slice u)) (hu : Try.prog.underlying u = some (.int k)) (hcu : Try.prog.cellsOf u = 1)
    {fuel : Nat} {a : Option Addr} {len cap : Nat} {x : DataW H × List MemPlace} (hf : DataW.trod enc Try.prog W 0 (fun _ => true) true fuel t [.slice a len cap] = some x) :
    ∃ vs : List Sl, vs.length = len ∧ Has W a (vs.map sI) ∧ (∀ y ∈ vs, Has W y.1 (y.2.2.map (.int k)) ∧ (∀ s ∈ y.2.2, (Lit.int k s).wf = true) ∧ y.2.2.length ≤ maxLen ∧ (y.1 = none → y.2.1 = 0 ∧ y.2.2 = [])) ∧ len ≤ maxLen ∧ (a = none → cap = 0 ∧ vs = []) := by
  refine rd_rows ht hc sI _ ?_ hf
  intro n v x hx
  rcases open_ints he hu hcu hx with ⟨hcs, _⟩ | ⟨y, l, c, ss, hcs, _⟩
  · simp only [List.cons.injEq, and_true] at hcs
    subst hcs
    obtain ⟨ss, h1, h2, h3, h4, h5⟩ := rd_ints he hu hcu hx
    exact ⟨(none, 0, ss), by simp [sI, h1], h2, h3, by show ss.length ≤ _; omega, fun h => h5 h⟩
  · simp only [List.cons.injEq, and_true] at hcs
    subst hcs
    obtain ⟨ss, h1, h2, h3, h4, h5⟩ := rd_ints he hu hcu hx
    exact ⟨(some y, c, ss), by simp [sI, h1], h2, h3, by show ss.length ≤ _; omega, fun h => h5 h⟩
end

theorem law3 (a0 : Option Addr) (c0 : Nat) (Is : List Sl) (a1 : Option Addr) (c1 : Nat) (Ss : List Sl) (z : Int) (w : World) (hA : UArgs w a0 c0 Is a1 c1 Ss) :
    Calls Try.prog 3 #[.slice a0 Is.length c0, .slice a1 Ss.length c1, .int .i64 z] w fun e w' => e = .returned (.bool true) ∧ Below w.heap.size w w' := by
  by_cases h : Is.length = 1
  · exact law3_one a0 c0 Is a1 c1 Ss z w hA h
  · exact law3_many a0 c0 Is a1 c1 Ss z w hA h

set_option maxRecDepth 100000 in
theorem lifted3 (os : Os) (started : os.Started) (H : Type) (enc : TypeId × Value → H) :
    ReturnsInHanded {} Try.checked os 3 .any (Rows.fnUnionHoldsJustTheMembersOfItsSetsSpec.pre6 enc Try.prog Try.f3 Rows.fnUnionHoldsJustTheMembersOfItsSetsRow.domain false) (Rows.fnUnionHoldsJustTheMembersOfItsSetsSpec.post enc Try.prog Try.f3 false true false false) := by
  refine returnsInHanded_of_change (C := Try.checked) own started (by kernel_rfl) Try.func3
    (ChangeSpec.witness6 (enc := enc) (C := Try.checked) false ⟨#[], #[.slice none 0 0, .slice none 0 0, .int .i64 0], []⟩ 8 (by kernel_rfl) (by kernel_rfl) (by kernel_rfl) (by kernel_rfl)) ?_
  intro W base args ds gs before hval0 hW hcnd _
  have hval : ∀ (j : Nat) t v, Try.f3.params[j]? = some t → args[j]? = some v → Value.okWide Try.prog W .any base t v := hval0
  have hW' := hW
  obtain ⟨p, q, hA0, hV, rfl, hfz, hnd⟩ := hW
  have hA : DataW.TrodAll enc Try.prog W 0 (fun _ => true) true Try.f3.params.toList args.toList ds p := hA0
  rw [Try.params3] at hA hval
  obtain ⟨v0, vs0, d0, ds0, p0, q0, hargs, rfl, rfl, h0, r0⟩ := trodAll_cons hA
  obtain ⟨v1, vs1, d1, ds1, p1, q1, rfl, rfl, rfl, h1, r1⟩ := trodAll_cons r0
  obtain ⟨v2, vs2, d2, ds2, p2, q2, rfl, rfl, rfl, h2, r2⟩ := trodAll_cons r1
  obtain ⟨rfl, rfl, rfl⟩ := trodAll_nil r2
  obtain rfl : args = #[v0, v1, v2] := by cases args; simp_all
  obtain ⟨rfl, rfl⟩ := trodVars_none hV
  obtain ⟨a0, len0, cap0, rfl⟩ := okWide_slice Try.underlying22 (hval 0 22 v0 rfl rfl)
  have k0 := h0
  have lt0 : ∀ x ∈ p0, x.block < W.heap.size := by obtain ⟨m, hm⟩ := k0; exact DataW.trod_lt m _ _ _ hm
  obtain ⟨a1, len1, cap1, rfl⟩ := okWide_slice Try.underlying23 (hval 1 23 v1 rfl rfl)
  have k1 := h1
  have lt1 : ∀ x ∈ p1, x.block < W.heap.size := by obtain ⟨m, hm⟩ := k1; exact DataW.trod_lt m _ _ _ hm
  obtain ⟨a2, rfl, rfl, rfl, w2⟩ := open_int Try.underlying3 (hval 2 3 v2 rfl rfl) h2
  obtain ⟨f0, hf0⟩ := h0
  obtain ⟨f1, hf1⟩ := h1
  obtain ⟨Is, rfl, e0, e0s, e0l, e0n⟩ := rd_intss Try.underlying22 Try.cells28 Try.underlying28 Try.underlying3 Try.cells3 (by simpa [Value.cells] using hf0)
  obtain ⟨Ss, rfl, e1, e1s, e1l, e1n⟩ := rd_intss Try.underlying23 Try.cells29 Try.underlying29 Try.underlying62 Try.cells62 (by simpa [Value.cells] using hf1)
  clear hA0 hval0 hf0 hf1
  have hE : UArgs W a0 cap0 Is a1 cap1 Ss := ⟨e0, e1, fun x hx => (e0s x hx).1, fun x hx => (e1s x hx).1, fun x hx => (e0s x hx).2.2.2, fun x hx => (e1s x hx).2.2.2, e0n, e1n,
    fun x hx z hz => by have := bounds_u64 ((e1s x hx).2.1 z hz); omega, e0l, e1l, fun x hx => (e0s x hx).2.2.1, fun x hx => (e1s x hx).2.2.1⟩
  refine (law3 a0 cap0 Is a1 cap1 Ss a2 W hE).mono fun e W' ⟨he, bel⟩ => ?_
  subst he
  exact ⟨_, rfl, _, _, _, [], _, [], hW', trodAll_mk1 (shut_bool Try.underlying4 _), (trodAll_cons_mk (Below.trod laidOut (by kernel_rfl) (of_decide_eq_true (by kernel_rfl)) k0 bel lt0) (trodAll_cons_mk (Below.trod laidOut (by kernel_rfl) (of_decide_eq_true (by kernel_rfl)) k1 bel lt1) (trodAll_cons_mk (shut_int Try.underlying3 w2) trodAll_mk0))), rfl, bel.frame _, fun h => by cases h⟩

theorem over3 : Rows.fnUnionHoldsJustTheMembersOfItsSetsRow.holds Try.pinned (OpenSpec.ofChange Rows.fnUnionHoldsJustTheMembersOfItsSetsSpec) :=
  OpenClaim.holds_of_wide 3 Try.f3 rfl rfl rfl rfl rfl rfl rfl ⟨rfl, rfl, rfl, rfl, rfl⟩ rfl rfl rfl rfl rfl (by kernel_rfl) Try.func3 closed3
    (of_decide_eq_true (by kernel_rfl)) (by unfold Func.isWrapper; first | (rw [if_pos (by decide +kernel)]; kernel_rfl) | (rw [if_neg (by decide +kernel)]; exact ⟨rfl, rfl⟩))
    (fun os started H enc _ => lifted3 os started H enc)

/-- The statement. -/
theorem unionHolds : Rows.FnUnionHoldsJustTheMembersOfItsSetsSaid := over3
#print axioms unionHolds
end Go.Proofs.Qxb6603130a
