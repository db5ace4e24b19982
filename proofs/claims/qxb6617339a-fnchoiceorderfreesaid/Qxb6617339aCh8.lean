import Derived.Test.Qxb6617339aCh1
import Derived.ProofKit
import Derived.OpenShut
import Derived.ChangeOld
import Derived.Below
import Derived.Deep.SlicePairs
namespace Go.Proofs.Qxb6617339a.Ch
open Go.ChangeShapes Go.WideShapes Go.ChangeAt Go.RowKit Go.Deep

theorem own : ownKnob Try.prog.godebug = none := by kernel_rfl
theorem laidOut : laidOutB Try.prog = true := by kernel_rfl
theorem cells32 : Try.prog.cellsOf 32 = 2 := by kernel_rfl
theorem cells3 : Try.prog.cellsOf 3 = 1 := by kernel_rfl
theorem cells4 : Try.prog.cellsOf 4 = 1 := by kernel_rfl

/-- A SLICE OF ZTerms THAT CAME IN: its length; where it holds an element, its cells. -/
theorem open_subs {H : Type} {enc : TypeId × Value → H} {W : World} {base : Nat} {held : Bool} {v : Value} {d : DataW H} {p : List MemPlace}
    (hok : Value.okWide Try.prog W .any base 29 v) (h : DataW.Trod enc Try.prog W 0 (fun _ => true) held 29 v d p) :
    ∃ a n cap, v = .slice a n cap ∧ n ≤ cap ∧ n ≤ maxLen ∧ (1 ≤ n → ∃ b off S B, a = some ⟨b, off, none⟩ ∧ Subs W b off n S B) := by
  obtain ⟨a, n, cap, rfl⟩ := okWide_slice Try.underlying29 hok
  have hlt : ∀ x ∈ p, x.block < W.heap.size := by obtain ⟨m, hm⟩ := h; exact DataW.trod_lt m _ _ _ hm
  obtain ⟨fuel, hf⟩ := h
  rcases open_slice_pairs Try.underlying29 Try.underlying32 cells32 rfl rfl cells3 cells4 hf with ⟨hcs, _⟩ | ⟨ad, len, cap', m, nn, V0, V1, D0, D1, P0, P1, hcs, _, hl, hm, hmm, hx, hall⟩
  · simp [Value.cells] at hcs
    obtain ⟨rfl, rfl, rfl⟩ := hcs
    exact ⟨none, 0, 0, rfl, Nat.le_refl _, Nat.zero_le _, fun h => by omega⟩
  · simp [Value.cells] at hcs
    obtain ⟨rfl, rfl, rfl⟩ := hcs
    simp only [if_true] at hmm
    subst hmm
    refine ⟨_, _, _, rfl, hl, Nat.le_trans hl hm, fun hn => ?_⟩
    obtain ⟨b, off, spot⟩ := ad
    have hspot : spot = none := by simpa [Addr.add] using World.cell?_spot (hall 0 (by omega)).1
    subst hspot
    have hS : ∀ i, i < n → ∃ s : Int × Bool, V0 i = .int .i64 s.1 ∧ V1 i = .bool s.2 := fun i hi => by
      obtain ⟨_, _, h0, h1⟩ := hall i (by omega)
      obtain ⟨s, e0, _, _⟩ := DataW.trod_int Try.underlying3 h0
      obtain ⟨t, e1, _⟩ := DataW.trod_bool Try.underlying4 h1
      simp at e0 e1
      exact ⟨(s, t), e0, e1⟩
    obtain ⟨f, hf⟩ := choose_lt hS
    refine ⟨b, off, fun i => (f i).1, fun i => (f i).2, rfl, ?_, fun i hi => ?_⟩
    · have hc := (hall 0 (by omega)).1
      rw [add_plain] at hc
      exact World.block_lt_of_cell? _ _ hc
    · obtain ⟨h0, h1, _, _⟩ := hall i (by omega)
      rw [add_plain] at h0 h1
      obtain ⟨e0, e1⟩ := hf i hi
      rw [e0] at h0
      rw [e1] at h1
      exact ⟨h0, h1⟩
end Go.Proofs.Qxb6617339a.Ch
