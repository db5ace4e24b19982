import Derived.Test.Qxb6617339aCh11
import Derived.Test.Qxb6617339aCh8
namespace Go.Proofs.Qxb6617339a.Ch
open Go.ChangeShapes Go.WideShapes Go.ChangeAt Go.RowKit Go.Deep

/-- FnChoiceOrderFree, whatever slice and numbers came in. -/
theorem free_walk (a : Option Addr) (n cap : Nat) (x y : Int) (w : World) (hm : n ≤ maxLen) (ha : 1 ≤ n → ∃ b off S B, a = some ⟨b, off, none⟩ ∧ Subs w b off n S B) :
    Calls Try.prog 6 #[.slice a n cap, .int .i64 x, .int .i64 y] w fun e w' => e = .returned (.bool true) ∧ Below w.heap.size w w' := by
  by_cases hn : n < 2 ∨ 65536 < n
  · exact free_out a n cap x y hm hn w
  · by_cases hxy : x < 0 ∨ (n : Int) ≤ x ∨ y < 0 ∨ (n : Int) ≤ y
    · exact free_off a n cap x y (by omega) (by omega) hxy w
    · obtain ⟨b, off, S, B, rfl, hs⟩ := ha (by omega)
      obtain ⟨i, rfl⟩ := Int.eq_ofNat_of_zero_le (show 0 ≤ x by omega)
      obtain ⟨j, rfl⟩ := Int.eq_ofNat_of_zero_le (show 0 ≤ y by omega)
      by_cases e : i = j
      · subst e
        exact free_same b off n cap i S B (by omega) (by omega) (by omega) w hs
      · exact free_in b off n cap i j S B (by omega) (by omega) (by omega) (by omega) e w hs

set_option maxHeartbeats 400000 in
set_option maxRecDepth 100000 in
theorem free_lifted (os : Os) (started : os.Started) (H : Type) (enc : TypeId × Value → H) :
    ReturnsInHanded {} Try.checked os 6 .any (Rows.fnChoiceOrderFreeSpec.pre6 enc Try.prog Try.f6 Rows.fnChoiceOrderFreeRow.domain false) (Rows.fnChoiceOrderFreeSpec.post enc Try.prog Try.f6 false true false false) := by
  refine returnsInHanded_of_change (C := Try.checked) own started (by kernel_rfl) Try.func6
    (ChangeSpec.witness6 (enc := enc) (C := Try.checked) false ⟨#[], #[.slice none 0 0, .int .i64 0, .int .i64 0], []⟩ 8 (by kernel_rfl) (by kernel_rfl) (by kernel_rfl) (by kernel_rfl)) ?_
  intro W base args ds gs before hval0 hW hcnd _
  have hval : ∀ (j : Nat) t v, Try.f6.params[j]? = some t → args[j]? = some v → Value.okWide Try.prog W .any base t v := hval0
  have hW' := hW
  obtain ⟨p, q, hA0, hV, rfl, hfz, hnd⟩ := hW
  have hA : DataW.TrodAll enc Try.prog W 0 (fun _ => true) true Try.f6.params.toList args.toList ds p := hA0
  rw [Try.params6] at hA hval
  obtain ⟨v0, vs0, d0, ds0, p0, q0, hargs, rfl, rfl, h0, r0⟩ := trodAll_cons hA
  obtain ⟨v1, vs1, d1, ds1, p1, q1, rfl, rfl, rfl, h1, r1⟩ := trodAll_cons r0
  obtain ⟨v2, vs2, d2, ds2, p2, q2, rfl, rfl, rfl, h2, r2⟩ := trodAll_cons r1
  obtain ⟨rfl, rfl, rfl⟩ := trodAll_nil r2
  obtain rfl : args = #[v0, v1, v2] := by cases args; simp_all
  obtain ⟨rfl, rfl⟩ := trodVars_none hV
  have k0 := h0
  have lt0 : ∀ x ∈ p0, x.block < W.heap.size := by obtain ⟨m, hm⟩ := k0; exact DataW.trod_lt m _ _ _ hm
  obtain ⟨a, n, cap, rfl, _, hm, ha⟩ := open_subs (hval 0 29 v0 rfl rfl) h0
  obtain ⟨x, rfl, rfl, rfl, wx⟩ := open_int Try.underlying3 (hval 1 3 v1 rfl rfl) h1
  obtain ⟨y, rfl, rfl, rfl, wy⟩ := open_int Try.underlying3 (hval 2 3 v2 rfl rfl) h2
  clear hA0 hval0
  refine (free_walk a n cap x y W hm ha).mono fun e W' ⟨he, bel⟩ => ?_
  subst he
  exact ⟨_, rfl, _, _, _, [], _, [], hW', trodAll_mk1 (shut_bool Try.underlying4 _), (trodAll_cons_mk (Below.trod laidOut (by kernel_rfl) (of_decide_eq_true (by kernel_rfl)) k0 bel lt0) (trodAll_cons_mk (shut_int Try.underlying3 wx) (trodAll_cons_mk (shut_int Try.underlying3 wy) trodAll_mk0))), rfl, bel.frame _, fun h => by cases h⟩

end Go.Proofs.Qxb6617339a.Ch

namespace Go.Proofs.Qxb6617339a
/-- ████ THE STATEMENT ████ -/
theorem free_proved : Rows.FnChoiceOrderFreeSaid :=
  OpenClaim.holds_of_wide 6 Try.f6 rfl rfl rfl rfl rfl rfl rfl ⟨rfl, rfl, rfl, rfl, rfl⟩ rfl rfl rfl rfl rfl (by kernel_rfl) Try.func6 (by kernel_rfl)
    (of_decide_eq_true (by kernel_rfl)) (by unfold Func.isWrapper; first | (rw [if_pos (by decide +kernel)]; kernel_rfl) | (rw [if_neg (by decide +kernel)]; exact ⟨rfl, rfl⟩))
    (fun os started H enc _ => Ch.free_lifted os started H enc)
#print axioms free_proved
end Go.Proofs.Qxb6617339a
