import Derived.Test.Qxb6617339aCompl
import Derived.ProofKit
import Derived.OpenShut
import Derived.ChangeOld
import Derived.Below
import Derived.Laws.IdiomArrays
namespace Go.Proofs.Qxb6617339a
open Go.ChangeShapes Go.WideShapes Go.ChangeAt Go.RowKit

theorem Try.own : ownKnob Try.prog.godebug = none := by kernel_rfl
theorem Try.laidOut : laidOutB Try.prog = true := by kernel_rfl
theorem Try.cells22 : Try.prog.cellsOf 22 = 1 := by kernel_rfl
theorem Try.cells23 : Try.prog.cellsOf 23 = 4 := by kernel_rfl

theorem list4 {α : Type} (l : List α) (h : (⟨l⟩ : Array α).size = 4) : ∃ a b c d, l = [a, b, c, d] := by
  match l, h with
  | [a, b, c, d], _ => exact ⟨a, b, c, d, rfl⟩

/-- AN ARRAY [4]uint64 BY VALUE: its four words. -/
theorem open_words {H : Type} {enc : TypeId × Value → H} {W : World} {base b0 : Nat} {sp : Nat → Bool} {held : Bool} {v : Value} {d : DataW H} {p : List MemPlace}
    (hok : Value.okWide Try.prog W .any base 23 v) (h : DataW.Trod enc Try.prog W b0 sp held 23 v d p) :
    ∃ x0 x1 x2 x3, v = .agg #[.int .u64 x0, .int .u64 x1, .int .u64 x2, .int .u64 x3] ∧ Words [x0, x1, x2, x3] := by
  obtain ⟨cs, rfl, hsz, _⟩ : ∃ cs, v = .agg cs ∧ cs.size = Try.prog.cellsOf 23 ∧ Row.okWide Try.prog W .any base 23 cs := by
    simpa [Value.okWide, Try.underlying23] using hok
  rw [Try.cells23] at hsz
  obtain ⟨l⟩ := cs
  obtain ⟨c0, c1, c2, c3, rfl⟩ := list4 l hsz
  obtain ⟨fuel, hf⟩ := h
  obtain ⟨y0, y1, y2, y3, m, _, hy0, hy1, hy2, hy3⟩ := trod_array4 Try.underlying23 Try.cells22 hf
  obtain ⟨x0, e0, _, w0⟩ := DataW.trod_int Try.underlying22 hy0
  obtain ⟨x1, e1, _, w1⟩ := DataW.trod_int Try.underlying22 hy1
  obtain ⟨x2, e2, _, w2⟩ := DataW.trod_int Try.underlying22 hy2
  obtain ⟨x3, e3, _, w3⟩ := DataW.trod_int Try.underlying22 hy3
  simp at e0 e1 e2 e3
  subst e0 e1 e2 e3
  refine ⟨x0, x1, x2, x3, rfl, rfl, ?_⟩
  have b0 := bounds_u64 w0
  have b1 := bounds_u64 w1
  have b2 := bounds_u64 w2
  have b3 := bounds_u64 w3
  intro x hx
  simp only [List.mem_cons, List.not_mem_nil, or_false] at hx
  rcases hx with rfl | rfl | rfl | rfl <;> omega
end Go.Proofs.Qxb6617339a
