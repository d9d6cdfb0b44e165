import Derived.Test.Qxb6603130aKit
import Derived.Maps.OwnSet
import Derived.Deep.Draws
namespace Go.Proofs.Qxb6603130a
open Go.RowKit Go.Maps Go.WideMaps

theorem keyed : Keyed Try.prog 9 := string_keyed Try.underlying9
theorem zero41 (w : World) : (zeroValue 41).run Try.prog w = .ok (.slice none 0 0) w := by kernel_rfl

/-- The map's elements are not looked at. -/
def anyElem : Value → Option (DataW Unit × List MemPlace) := fun _ => some (.lit (.bool true), [])

/-- The value m is a map (or nil) whose keys are those that f says yes to. -/
def MapIs (w : World) (m : Value) (f : ByteArray → Bool) : Prop :=
  (m = .map none ∧ ∀ s, f s = false) ∨ ∃ b n D, m = .map (some b) ∧ w.ownsMap Try.prog 9 anyElem b n D ∧ ∀ s : ByteArray, Maps.has D (.string s.data.toList) = f s

theorem MapIs.look {w : World} {m : Value} {f : ByteArray → Bool} (h : MapIs w m f) (s : ByteArray) (hs : s.size ≤ maxLen) :
    ∃ v, (Instr.lookup 65 m (.string s) true).run Try.prog w = .ok (.tuple #[v, .bool (f s)]) w := by
  have hkey : keyOf Try.prog 9 (.string s) = some (.string s.data.toList) := keyOf_string_mk Try.underlying9 hs
  rcases h with ⟨rfl, hf⟩ | ⟨b, n, D, rfl, hown, hf⟩
  · exact ⟨_, by rw [hf]; exact Maps.look_nil true keyed Try.underlying65 (zero41 w) hkey⟩
  · obtain ⟨v, ps, hr, _⟩ := hown.look_ok keyed Try.underlying65 (zero41 w) (zd := .lit (.bool true)) (zp := []) rfl hkey
    exact ⟨v, by rw [← hf]; exact hr⟩

/-- The map's block. -/
def mblock : Value → Option Nat
  | .map b => b
  | _ => none

theorem MapIs.kept {w w' : World} {m : Value} {f : ByteArray → Bool} (h : MapIs w m f) (hb : ∀ b, mblock m = some b → b < w.heap.size → w'.heap[b]? = w.heap[b]?) : MapIs w' m f := by
  rcases h with h | ⟨b, n, D, rfl, hown, hf⟩
  · exact .inl h
  · refine .inr ⟨b, n, D, rfl, ?_, hf⟩
    have e := hb b rfl hown.lt
    obtain ⟨es, clock, hh, r⟩ := hown
    exact ⟨es, clock, e.trans hh, r⟩

theorem MapIs.lt {w : World} {m : Value} {f : ByteArray → Bool} (h : MapIs w m f) (b : Nat) (hb : mblock m = some b) : b < w.heap.size := by
  rcases h with ⟨rfl, _⟩ | ⟨b', n, D, rfl, hown, hf⟩
  · cases hb
  · cases hb; exact hown.lt

/-- The look-up at the operation, for the walk. -/
theorem wpList_look {ops : Array Oper} {rest : List Oper} {o : Oper} {a : Act} {Q : Exit → Act → World → Prop} (w : World)
    (hg : o.guard = none) (mo x : Operand) (hop : o.op = Op.lookup 65 mo x true) (m : Value) (f : ByteArray → Bool) (hm : a.eval mo = m) (his : MapIs w m f)
    (s : ByteArray) (hx : a.eval x = .string s) (hs : s.size ≤ maxLen) (hK : ∀ v, wpList Try.prog ops Q rest (a.put o.dst (.tuple #[v, .bool (f s)])) w) :
    wpList Try.prog ops Q (o :: rest) a w := by
  refine wpList_plain hg fun K' hK' => ?_
  obtain ⟨v, hrun⟩ := his.look s hs
  unfold Oper.wp
  simp [execOp, hop, hm, hx, hrun, Result.andThen]
  exact hK' _ _ (hK v)

end Go.Proofs.Qxb6603130a
