import Derived.Test.Qxb6603130aLaw5L
import Derived.Test.Qxb6603130aOpen
import Derived.OpenShut
namespace Go.Proofs.Qxb6603130a
open Go.ChangeShapes Go.WideShapes Go.ChangeAt Go.RowKit

theorem words_of {zs : List Int} (h : ∀ n ∈ zs, (Lit.int .u64 n).wf = true) : Words zs := by
  intro z hz
  have := bounds_u64 (h z hz)
  omega

theorem law5 (a0 : Option Addr) (c0 : Nat) (cs : List Int) (a1 : Option Addr) (c1 : Nat) (zs : List Int) (a2 : Option Addr) (c2 : Nat) (ids : List Int) (w : World) (hA : AArgs w a0 c0 cs a1 c1 zs a2 c2 ids) :
    Calls Try.prog 5 #[.slice a0 cs.length c0, .slice a1 zs.length c1, .slice a2 ids.length c2] w fun e w' => e = .returned (.bool true) ∧ Below w.heap.size w w' := by
  cases a1 with
  | none =>
    obtain ⟨rfl, rfl⟩ := hA.n1 rfl
    exact law5_list a0 c0 cs a2 c2 ids w hA
  | some x1 => exact law5_set a0 c0 cs x1 c1 zs a2 c2 ids w hA

set_option maxRecDepth 100000 in
theorem lifted5 (os : Os) (started : os.Started) (H : Type) (enc : TypeId × Value → H) :
    ReturnsInHanded {} Try.checked os 5 .any (Rows.fnAmongKeepsJustThoseItHoldsSpec.pre6 enc Try.prog Try.f5 Rows.fnAmongKeepsJustThoseItHoldsRow.domain false) (Rows.fnAmongKeepsJustThoseItHoldsSpec.post enc Try.prog Try.f5 false true false false) := by
  refine returnsInHanded_of_change (C := Try.checked) own started (by kernel_rfl) Try.func5
    (ChangeSpec.witness6 (enc := enc) (C := Try.checked) false ⟨#[], #[.slice none 0 0, .slice none 0 0, .slice none 0 0], []⟩ 8 (by kernel_rfl) (by kernel_rfl) (by kernel_rfl) (by kernel_rfl)) ?_
  intro W base args ds gs before hval0 hW hcnd _
  have hval : ∀ (j : Nat) t v, Try.f5.params[j]? = some t → args[j]? = some v → Value.okWide Try.prog W .any base t v := hval0
  have hW' := hW
  obtain ⟨p, q, hA0, hV, rfl, hfz, hnd⟩ := hW
  have hA : DataW.TrodAll enc Try.prog W 0 (fun _ => true) true Try.f5.params.toList args.toList ds p := hA0
  rw [Try.params5] at hA hval
  obtain ⟨v0, vs0, d0, ds0, p0, q0, hargs, rfl, rfl, h0, r0⟩ := trodAll_cons hA
  obtain ⟨v1, vs1, d1, ds1, p1, q1, rfl, rfl, rfl, h1, r1⟩ := trodAll_cons r0
  obtain ⟨v2, vs2, d2, ds2, p2, q2, rfl, rfl, rfl, h2, r2⟩ := trodAll_cons r1
  obtain ⟨rfl, rfl, rfl⟩ := trodAll_nil r2
  obtain rfl : args = #[v0, v1, v2] := by cases args; simp_all
  obtain ⟨rfl, rfl⟩ := trodVars_none hV
  obtain ⟨a0, len0, cap0, rfl⟩ := okWide_slice Try.underlying28 (hval 0 28 v0 rfl rfl)
  have k0 := h0
  have lt0 : ∀ x ∈ p0, x.block < W.heap.size := by obtain ⟨m, hm⟩ := k0; exact DataW.trod_lt m _ _ _ hm
  obtain ⟨a1, len1, cap1, rfl⟩ := okWide_slice Try.underlying29 (hval 1 29 v1 rfl rfl)
  have k1 := h1
  have lt1 : ∀ x ∈ p1, x.block < W.heap.size := by obtain ⟨m, hm⟩ := k1; exact DataW.trod_lt m _ _ _ hm
  obtain ⟨a2, len2, cap2, rfl⟩ := okWide_slice Try.underlying28 (hval 2 28 v2 rfl rfl)
  have k2 := h2
  have lt2 : ∀ x ∈ p2, x.block < W.heap.size := by obtain ⟨m, hm⟩ := k2; exact DataW.trod_lt m _ _ _ hm
  obtain ⟨f0, hf0⟩ := h0
  obtain ⟨f1, hf1⟩ := h1
  obtain ⟨f2, hf2⟩ := h2
  obtain ⟨cs, rfl, e0, e0s, e0l, e0n⟩ := rd_ints Try.underlying28 Try.underlying3 Try.cells3 (by simpa [Value.cells] using hf0)
  obtain ⟨zs, rfl, e1, e1s, e1l, e1n⟩ := rd_ints Try.underlying29 Try.underlying62 Try.cells62 (by simpa [Value.cells] using hf1)
  obtain ⟨ids, rfl, e2, e2s, e2l, e2n⟩ := rd_ints Try.underlying28 Try.underlying3 Try.cells3 (by simpa [Value.cells] using hf2)
  clear hA0 hval0 hf0 hf1 hf2
  have hE : AArgs W a0 cap0 cs a1 cap1 zs a2 cap2 ids := ⟨e0, e1, e2, e0n, e1n, e2n, words_of e1s, e0l, e1l, e2l⟩
  refine (law5 a0 cap0 cs a1 cap1 zs a2 cap2 ids W hE).mono fun e W' ⟨he, bel⟩ => ?_
  subst he
  exact ⟨_, rfl, _, _, _, [], _, [], hW', trodAll_mk1 (shut_bool Try.underlying4 _), (trodAll_cons_mk (Below.trod laidOut (by kernel_rfl) (of_decide_eq_true (by kernel_rfl)) k0 bel lt0) (trodAll_cons_mk (Below.trod laidOut (by kernel_rfl) (of_decide_eq_true (by kernel_rfl)) k1 bel lt1) (trodAll_cons_mk (Below.trod laidOut (by kernel_rfl) (of_decide_eq_true (by kernel_rfl)) k2 bel lt2) trodAll_mk0))), rfl, bel.frame _, fun h => by cases h⟩

theorem over5 : Rows.fnAmongKeepsJustThoseItHoldsRow.holds Try.pinned (OpenSpec.ofChange Rows.fnAmongKeepsJustThoseItHoldsSpec) :=
  OpenClaim.holds_of_wide 5 Try.f5 rfl rfl rfl rfl rfl rfl rfl ⟨rfl, rfl, rfl, rfl, rfl⟩ rfl rfl rfl rfl rfl (by kernel_rfl) Try.func5 (by kernel_rfl)
    (of_decide_eq_true (by kernel_rfl)) (by unfold Func.isWrapper; first | (rw [if_pos (by decide +kernel)]; kernel_rfl) | (rw [if_neg (by decide +kernel)]; exact ⟨rfl, rfl⟩))
    (fun os started H enc _ => lifted5 os started H enc)

/-- The statement. -/
theorem amongKeeps : Rows.FnAmongKeepsJustThoseItHoldsSaid := over5
#print axioms amongKeeps
end Go.Proofs.Qxb6603130a
