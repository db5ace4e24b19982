import Derived.Test.Qxb6617339aCh6
import Derived.Test.Qxb6617339aCh7
import Derived.Test.Qxb6617339aCh8
namespace Go.Proofs.Qxb6617339a.Ch
open Go.ChangeShapes Go.WideShapes Go.ChangeAt Go.RowKit Go.Deep

/-- FnChoiceCutAndNest, whatever slice and number came in. -/
theorem cut_walk (a : Option Addr) (n cap : Nat) (x : Int) (w : World) (hcap : n ≤ cap) (hm : n ≤ maxLen) (ha : 1 ≤ n → ∃ b off S B, a = some ⟨b, off, none⟩ ∧ Subs w b off n S B) :
    Calls Try.prog 5 #[.slice a n cap, .int .i64 x] w fun e w' => e = .returned (.bool true) ∧ Below w.heap.size w w' := by
  by_cases hn : n < 2 ∨ 65536 < n
  · exact cut_out a n cap x hm hn w
  · obtain ⟨b, off, S, B, rfl, hs⟩ := ha (by omega)
    by_cases h1 : x < 2
    · exact cut_short b off n cap x S B (by omega) (by omega) h1 w hs
    · by_cases h2 : (n : Int) - 2 < x
      · exact cut_long b off n cap x S B (by omega) (by omega) (by omega) h2 w hs
      · obtain ⟨c, rfl⟩ := Int.eq_ofNat_of_zero_le (show 0 ≤ x by omega)
        exact cut_mid b off n cap c S B (by omega) (by omega) (by omega) (by omega) hcap w hs

set_option maxHeartbeats 400000 in
set_option maxRecDepth 100000 in
theorem cut_lifted (os : Os) (started : os.Started) (H : Type) (enc : TypeId × Value → H) :
    ReturnsInHanded {} Try.checked os 5 .any (Rows.fnChoiceCutAndNestSpec.pre6 enc Try.prog Try.f5 Rows.fnChoiceCutAndNestRow.domain false) (Rows.fnChoiceCutAndNestSpec.post enc Try.prog Try.f5 false true false false) := by
  refine returnsInHanded_of_change (C := Try.checked) own started (by kernel_rfl) Try.func5
    (ChangeSpec.witness6 (enc := enc) (C := Try.checked) false ⟨#[], #[.slice none 0 0, .int .i64 0], []⟩ 8 (by kernel_rfl) (by kernel_rfl) (by kernel_rfl) (by kernel_rfl)) ?_
  intro W base args ds gs before hval0 hW hcnd _
  have hval : ∀ (j : Nat) t v, Try.f5.params[j]? = some t → args[j]? = some v → Value.okWide Try.prog W .any base t v := hval0
  have hW' := hW
  obtain ⟨p, q, hA0, hV, rfl, hfz, hnd⟩ := hW
  have hA : DataW.TrodAll enc Try.prog W 0 (fun _ => true) true Try.f5.params.toList args.toList ds p := hA0
  rw [Try.params5] at hA hval
  obtain ⟨v0, vs0, d0, ds0, p0, q0, hargs, rfl, rfl, h0, r0⟩ := trodAll_cons hA
  obtain ⟨v1, vs1, d1, ds1, p1, q1, rfl, rfl, rfl, h1, r1⟩ := trodAll_cons r0
  obtain ⟨rfl, rfl, rfl⟩ := trodAll_nil r1
  obtain rfl : args = #[v0, v1] := by cases args; simp_all
  obtain ⟨rfl, rfl⟩ := trodVars_none hV
  have k0 := h0
  have lt0 : ∀ x ∈ p0, x.block < W.heap.size := by obtain ⟨m, hm⟩ := k0; exact DataW.trod_lt m _ _ _ hm
  obtain ⟨a, n, cap, rfl, hcap, hm, ha⟩ := open_subs (hval 0 29 v0 rfl rfl) h0
  obtain ⟨x, rfl, rfl, rfl, wx⟩ := open_int Try.underlying3 (hval 1 3 v1 rfl rfl) h1
  clear hA0 hval0
  refine (cut_walk a n cap x W hcap hm ha).mono fun e W' ⟨he, bel⟩ => ?_
  subst he
  exact ⟨_, rfl, _, _, _, [], _, [], hW', trodAll_mk1 (shut_bool Try.underlying4 _), (trodAll_cons_mk (Below.trod laidOut (by kernel_rfl) (of_decide_eq_true (by kernel_rfl)) k0 bel lt0) (trodAll_cons_mk (shut_int Try.underlying3 wx) trodAll_mk0)), rfl, bel.frame _, fun h => by cases h⟩

end Go.Proofs.Qxb6617339a.Ch

namespace Go.Proofs.Qxb6617339a
/-- ████ THE STATEMENT ████ -/
theorem cut_proved : Rows.FnChoiceCutAndNestSaid :=
  OpenClaim.holds_of_wide 5 Try.f5 rfl rfl rfl rfl rfl rfl rfl ⟨rfl, rfl, rfl, rfl, rfl⟩ rfl rfl rfl rfl rfl (by kernel_rfl) Try.func5 (by kernel_rfl)
    (of_decide_eq_true (by kernel_rfl)) (by unfold Func.isWrapper; first | (rw [if_pos (by decide +kernel)]; kernel_rfl) | (rw [if_neg (by decide +kernel)]; exact ⟨rfl, rfl⟩))
    (fun os started H enc _ => Ch.cut_lifted os started H enc)
#print axioms cut_proved
end Go.Proofs.Qxb6617339a
