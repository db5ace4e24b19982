import Derived.Test.Qxb6617417aJo3
namespace Go.Proofs.Qxb6617417a.Jo
open Go.RowKit

/-- Do the two adjoin? -/
def adN (a b c d : Nat) : Bool := (!decide (b = 0) && decide (b = c)) || (!decide (d = 0) && decide (d = a))
def adB (a b c d : ByteArray) : Bool := (!b.toList.isEmpty && (b.toList == c.toList)) || (!d.toList.isEmpty && (d.toList == a.toList))
theorem adB_map (l : List (List UInt8)) (h0 : [] ∈ l) (a b c d : ByteArray) (h1 : a.toList ∈ l) (h2 : b.toList ∈ l) (h3 : c.toList ∈ l) (h4 : d.toList ∈ l) :
    adB a b c d = adN (rk l a.toList) (rk l b.toList) (rk l c.toList) (rk l d.toList) := by
  unfold adB adN
  rw [rk_empty l _ h0, rk_empty l _ h0, rk_eq l _ _ h2 h3, rk_eq l _ _ h4 h1]

theorem union_lo (a b c d : Nat) (h1 : b = 0 ∨ a < b) (h2 : d = 0 ∨ c < d) (hac : ¬ c < a) (J : Nat × Nat × Bool) (hJ : J = jN a b c d) :
    J.2.2 = ((kN a b c || kN c d a) || adN a b c d) ∧ (J.2.2 = false → J.1 = 0 ∧ J.2.1 = 0) ∧ (J.2.2 = true → rN J.1 J.2.1 = true ∧ ∀ p, kN J.1 J.2.1 p = (kN a b p || kN c d p)) := by
  have e : jN a b c d = jON a b c d := by simp [jN, hac]
  rw [e] at hJ
  rcases jON_cases a b c d with ⟨g1, g2, g3⟩ | ⟨H, g3, g4, g5, g6⟩
  · rw [g3] at hJ
    subst hJ
    refine ⟨?_, fun _ => ⟨rfl, rfl⟩, fun h => by simp at h⟩
    show false = _
    symm
    simp only [kN, adN, Bool.or_eq_false_iff, Bool.and_eq_false_iff, Bool.not_eq_false', decide_eq_false_iff_not, decide_eq_true_eq]
    omega
  · rw [g3] at hJ
    subst hJ
    refine ⟨?_, fun h => by simp at h, fun _ => ⟨?_, fun p => ?_⟩⟩
    · show true = _
      symm
      simp only [kN, adN, Bool.or_eq_true, Bool.and_eq_true, Bool.not_eq_true', decide_eq_false_iff_not, decide_eq_true_eq]
      omega
    · show rN a H = true
      rw [rN_iff]
      by_cases hH : H = 0
      · exact Or.inl hH
      · obtain ⟨u1, u2, u3⟩ := g6 hH
        have u4 : ¬ b = 0 := fun h => hH (g5.2 (Or.inl h))
        exact Or.inr (by omega)
    · show kN a H p = _
      rw [Bool.eq_iff_iff]
      simp only [kN, Bool.or_eq_true, Bool.and_eq_true, decide_eq_true_eq]
      by_cases hH : H = 0
      · rcases g5.1 hH with hb | hd <;> omega
      · obtain ⟨u1, u2, u3⟩ := g6 hH
        have u4 : ¬ b = 0 := fun h => hH (g5.2 (Or.inl h))
        have u5 : ¬ d = 0 := fun h => hH (g5.2 (Or.inr h))
        omega
theorem adN_comm (a b c d : Nat) : adN c d a b = adN a b c d := by unfold adN; rw [Bool.or_comm]
theorem union_nat (a b c d : Nat) (h1 : rN a b = true) (h2 : rN c d = true) (J : Nat × Nat × Bool) (hJ : J = jN a b c d) :
    J.2.2 = ((kN a b c || kN c d a) || adN a b c d) ∧ (J.2.2 = false → J.1 = 0 ∧ J.2.1 = 0) ∧ (J.2.2 = true → rN J.1 J.2.1 = true ∧ ∀ p, kN J.1 J.2.1 p = (kN a b p || kN c d p)) := by
  rw [rN_iff] at h1 h2
  by_cases g : c < a
  · obtain ⟨k1, k2, k3⟩ := union_lo c d a b h2 h1 (by omega) J (by rw [hJ, jN_sym a b c d h1 h2])
    refine ⟨by rw [k1, Bool.or_comm (kN c d a), adN_comm], k2, fun h => ⟨(k3 h).1, fun p => by rw [(k3 h).2 p, Bool.or_comm]⟩⟩
  · exact union_lo a b c d h1 h2 g J hJ

/-- The law, of strings. -/
theorem union_str (a b c d k : ByteArray) (hr : rOK a b = true) (hs : rOK c d = true) (J : ByteArray × ByteArray × Bool) (hJ : J = jB a b c d) :
    J.2.2 = ((kIn a b c || kIn c d a) || adB a b c d) ∧ (J.2.2 = false → J.1.toList.isEmpty = true ∧ J.2.1.toList.isEmpty = true) ∧
    (J.2.2 = true → rOK J.1 J.2.1 = true ∧ ∀ p, p = k ∨ p = a ∨ p = b ∨ p = c ∨ p = d → kIn J.1 J.2.1 p = (kIn a b p || kIn c d p)) := by
  obtain ⟨l, hl⟩ : ∃ l : List (List UInt8), l = [[], a.toList, b.toList, c.toList, d.toList, k.toList] := ⟨_, rfl⟩
  have m0 : [] ∈ l := by simp [hl]
  have m1 : a.toList ∈ l := by simp [hl]
  have m2 : b.toList ∈ l := by simp [hl]
  have m3 : c.toList ∈ l := by simp [hl]
  have m4 : d.toList ∈ l := by simp [hl]
  have m5 : k.toList ∈ l := by simp [hl]
  clear hl
  obtain ⟨n1, n2, e1⟩ := jB_map l m0 a b c d m1 m2 m3 m4
  rw [← hJ] at n1 n2 e1
  rw [rOK_map l m0 a b m1 m2] at hr
  rw [rOK_map l m0 c d m3 m4] at hs
  obtain ⟨k1, k2, k3⟩ := union_nat _ _ _ _ hr hs _ rfl
  rw [e1] at k1 k2 k3
  simp only at k1 k2 k3
  refine ⟨?_, fun h => ?_, fun h => ⟨?_, fun p hp => ?_⟩⟩
  · rw [kIn_map l m0 _ _ _ m1 m2 m3, kIn_map l m0 _ _ _ m3 m4 m1, adB_map l m0 a b c d m1 m2 m3 m4]; exact k1
  · rw [rk_empty l _ m0, rk_empty l _ m0, decide_eq_true_eq, decide_eq_true_eq]; exact k2 h
  · rw [rOK_map l m0 _ _ n1 n2]; exact (k3 h).1
  · have mp : p.toList ∈ l := by rcases hp with rfl | rfl | rfl | rfl | rfl <;> assumption
    rw [kIn_map l m0 _ _ _ n1 n2 mp, kIn_map l m0 _ _ _ m1 m2 mp, kIn_map l m0 _ _ _ m3 m4 mp]
    exact (k3 h).2 _

set_option maxHeartbeats 1000000 in
theorem union_agrees (lo hi rl rh sl sh p : ByteArray) (h : kIn lo hi p = (kIn rl rh p || kIn sl sh p)) (w : World) :
    Calls Try.prog 23 #[.string lo, .string hi, .string rl, .string rh, .string sl, .string sh, .string p] w fun e w' => e = .returned (.bool true) ∧ w' = w := by
  cases h1 : kIn rl rh p
  · cases h2 : kIn sl sh p
    all_goals
      rw [h1, h2] at h
      simp only [Bool.or_false, Bool.or_true] at h
      go_enter Try.func23, Try.ntmps23
      go_wp2_with (go_at_call 22; refine (keyIn_any _ _ _ _).mono ?_; rintro e w' ⟨rfl, hw⟩; obtain rfl := hw.symm)
      go_ret
      exact ⟨rfl, rfl⟩
  · rw [h1] at h
    simp only [Bool.true_or] at h
    go_enter Try.func23, Try.ntmps23
    go_wp2_with (go_at_call 22; refine (keyIn_any _ _ _ _).mono ?_; rintro e w' ⟨rfl, hw⟩; obtain rfl := hw.symm)
    go_ret
    exact ⟨rfl, rfl⟩
end Go.Proofs.Qxb6617417a.Jo
