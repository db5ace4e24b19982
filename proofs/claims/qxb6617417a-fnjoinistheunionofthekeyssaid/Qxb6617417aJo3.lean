import Derived.Test.Qxb6617417aJo2
namespace Go.Proofs.Qxb6617417a.Jo

theorem rN_iff (a b : Nat) : rN a b = true ↔ b = 0 ∨ a < b := by simp [rN]

theorem jON_sym (a b d : Nat) (h1 : b = 0 ∨ a < b) (h2 : d = 0 ∨ a < d) : jON a b a d = jON a d a b := by
  by_cases hb : b = 0
  · by_cases hd : d = 0
    · simp [jON, hb, hd]
    · have : ¬ d < a := by omega
      simp [jON, hb, hd, this]
  · by_cases hd : d = 0
    · have : ¬ b < a := by omega
      simp [jON, hb, hd, this]
    · have g1 : ¬ b < a := by omega
      have g2 : ¬ d < a := by omega
      by_cases g3 : b < d
      · have g4 : ¬ d < b := by omega
        simp [jON, hb, hd, g1, g2, g3, g4]
      · by_cases g4 : d < b
        · simp [jON, hb, hd, g1, g2, g3, g4]
        · have : b = d := by omega
          subst this; rfl
theorem jN_sym (a b c d : Nat) (h1 : b = 0 ∨ a < b) (h2 : d = 0 ∨ c < d) : jN a b c d = jN c d a b := by
  by_cases g : c < a
  · have g' : ¬ a < c := by omega
    simp [jN, g, g']
  · by_cases g' : a < c
    · simp [jN, g, g']
    · have : a = c := by omega
      subst this
      simp [jN, jON_sym a b d h1 h2]

/-- The lower range first: what join gives. -/
theorem jON_cases (a b c d : Nat) : (b ≠ 0 ∧ b < c ∧ jON a b c d = (0, 0, false)) ∨
    ∃ H, jON a b c d = (a, H, true) ∧ (b = 0 ∨ ¬ b < c) ∧ (H = 0 ↔ b = 0 ∨ d = 0) ∧ (H ≠ 0 → b ≤ H ∧ d ≤ H ∧ (H = b ∨ H = d)) := by
  by_cases hb : b = 0
  · exact Or.inr ⟨b, by simp [jON, hb], Or.inl hb, by simp [hb], fun h => absurd hb h⟩
  · by_cases h1 : b < c
    · exact Or.inl ⟨hb, h1, by simp [jON, hb, h1]⟩
    · by_cases hd : d = 0
      · exact Or.inr ⟨d, by simp [jON, hb, h1, hd], Or.inr h1, by simp [hd], fun h => absurd hd h⟩
      · by_cases h2 : b < d
        · exact Or.inr ⟨d, by simp [jON, hb, h1, hd, h2], Or.inr h1, by simp [hb], fun _ => by omega⟩
        · exact Or.inr ⟨b, by simp [jON, hb, h1, hd, h2], Or.inr h1, by simp [hd], fun _ => by omega⟩

theorem jON_keep (a H c d : Nat) (h1 : H = 0 ∨ ¬ H < c) (h2 : d = 0 → H = 0) (h3 : H = 0 ∨ d ≤ H) : jON a H c d = (a, H, true) := by
  by_cases hb : H = 0
  · simp [jON, hb]
  · have g1 : ¬ H < c := by omega
    have g2 : ¬ d = 0 := fun h => hb (h2 h)
    have g3 : ¬ H < d := by omega
    simp [jON, hb, g1, g2, g3]

/-- The law at ranks, the lower range first. -/
theorem nat_abs (a b c d : Nat) (h1 : b = 0 ∨ a < b) (hac : ¬ c < a) (J : Nat × Nat × Bool) (hJ : J = jN a b c d) :
    ((kN a b c || kN c d a) = true → J.2.2 = true) ∧ (J.2.2 = true → J.1 = a ∧ jN J.1 J.2.1 a b = (J.1, J.2.1, true) ∧ jN J.1 J.2.1 c d = (J.1, J.2.1, true)) := by
  have e : jN a b c d = jON a b c d := by simp [jN, hac]
  rw [e] at hJ
  rcases jON_cases a b c d with ⟨g1, g2, g3⟩ | ⟨H, g3, g4, g5, g6⟩
  · rw [g3] at hJ
    subst hJ
    refine ⟨fun h => ?_, fun h => by simp at h⟩
    simp only [kN, Bool.or_eq_true, Bool.and_eq_true, decide_eq_true_eq] at h
    omega
  · rw [g3] at hJ
    subst hJ
    have q : jON a H a b = (a, H, true) ∧ jON a H c d = (a, H, true) := by
      by_cases hH : H = 0
      · exact ⟨jON_keep a H a b (Or.inl hH) (fun _ => hH) (Or.inl hH), jON_keep a H c d (Or.inl hH) (fun _ => hH) (Or.inl hH)⟩
      · obtain ⟨u1, u2, u3⟩ := g6 hH
        have u4 : ¬ b = 0 := fun h => hH (g5.2 (Or.inl h))
        exact ⟨jON_keep a H a b (Or.inr (by omega)) (fun h => g5.2 (Or.inl h)) (Or.inr u1), jON_keep a H c d (Or.inr (by omega)) (fun h => g5.2 (Or.inr h)) (Or.inr u2)⟩
    refine ⟨fun _ => rfl, fun _ => ⟨rfl, ?_, ?_⟩⟩
    · show jN a H a b = (a, H, true)
      have : jN a H a b = jON a H a b := by simp [jN]
      rw [this]; exact q.1
    · show jN a H c d = (a, H, true)
      have : jN a H c d = jON a H c d := by simp [jN, hac]
      rw [this]; exact q.2
theorem nat_free (a b c d : Nat) (h1 : rN a b = true) (h2 : rN c d = true) (J : Nat × Nat × Bool) (hJ : J = jN a b c d) :
    jN c d a b = J ∧ ((kN a b c || kN c d a) = true → J.2.2 = true) ∧ (J.2.2 = true → J.1 = (if c < a then c else a) ∧ jN J.1 J.2.1 a b = (J.1, J.2.1, true) ∧ jN J.1 J.2.1 c d = (J.1, J.2.1, true)) := by
  rw [rN_iff] at h1 h2
  have hs := jN_sym a b c d h1 h2
  refine ⟨by rw [hJ, hs], ?_⟩
  by_cases g : c < a
  · have := nat_abs c d a b h2 (by omega) J (by rw [hJ, hs])
    refine ⟨fun h => this.1 (by rw [Bool.or_comm]; exact h), fun h => ?_⟩
    obtain ⟨k1, k2, k3⟩ := this.2 h
    exact ⟨by rw [if_pos g]; exact k1, k3, k2⟩
  · have := nat_abs a b c d h1 g J hJ
    refine ⟨this.1, fun h => ?_⟩
    obtain ⟨k1, k2, k3⟩ := this.2 h
    exact ⟨by rw [if_neg g]; exact k1, k2, k3⟩

/-- The law, of strings. -/
theorem order_free (rl rh sl sh : ByteArray) (hr : rOK rl rh = true) (hs : rOK sl sh = true) :
    ((jB rl rh sl sh).1.toList == (jB sl sh rl rh).1.toList) = true ∧ ((jB rl rh sl sh).2.1.toList == (jB sl sh rl rh).2.1.toList) = true ∧ (jB sl sh rl rh).2.2 = (jB rl rh sl sh).2.2 ∧
    ((kIn rl rh sl || kIn sl sh rl) = true → (jB rl rh sl sh).2.2 = true) ∧
    ((jB rl rh sl sh).2.2 = true → ((jB rl rh sl sh).1.toList == (if Op.bytesLess sl.toList rl.toList = true then sl else rl).toList) = true ∧
      ((jB (jB rl rh sl sh).1 (jB rl rh sl sh).2.1 rl rh).2.2 = true ∧ ((jB (jB rl rh sl sh).1 (jB rl rh sl sh).2.1 rl rh).1.toList == (jB rl rh sl sh).1.toList) = true ∧ ((jB (jB rl rh sl sh).1 (jB rl rh sl sh).2.1 rl rh).2.1.toList == (jB rl rh sl sh).2.1.toList) = true) ∧
      ((jB (jB rl rh sl sh).1 (jB rl rh sl sh).2.1 sl sh).2.2 = true ∧ ((jB (jB rl rh sl sh).1 (jB rl rh sl sh).2.1 sl sh).1.toList == (jB rl rh sl sh).1.toList) = true ∧ ((jB (jB rl rh sl sh).1 (jB rl rh sl sh).2.1 sl sh).2.1.toList == (jB rl rh sl sh).2.1.toList) = true)) := by
  obtain ⟨l, hl⟩ : ∃ l : List (List UInt8), l = [[], rl.toList, rh.toList, sl.toList, sh.toList] := ⟨_, rfl⟩
  have m0 : [] ∈ l := by simp [hl]
  have m1 : rl.toList ∈ l := by simp [hl]
  have m2 : rh.toList ∈ l := by simp [hl]
  have m3 : sl.toList ∈ l := by simp [hl]
  have m4 : sh.toList ∈ l := by simp [hl]
  clear hl
  obtain ⟨n1, n2, e1⟩ := jB_map l m0 rl rh sl sh m1 m2 m3 m4
  obtain ⟨n3, n4, e2⟩ := jB_map l m0 sl sh rl rh m3 m4 m1 m2
  obtain ⟨n5, n6, e3⟩ := jB_map l m0 _ _ rl rh n1 n2 m1 m2
  obtain ⟨n7, n8, e4⟩ := jB_map l m0 _ _ sl sh n1 n2 m3 m4
  rw [rOK_map l m0 rl rh m1 m2] at hr
  rw [rOK_map l m0 sl sh m3 m4] at hs
  obtain ⟨k1, k2, k3⟩ := nat_free _ _ _ _ hr hs _ rfl
  rw [e1] at k1 k2 k3
  rw [e2] at k1
  simp only [Prod.mk.injEq] at k1
  refine ⟨?_, ?_, k1.2.2, ?_, fun h => ?_⟩
  · rw [rk_eq l _ _ n1 n3, decide_eq_true_eq]; exact k1.1.symm
  · rw [rk_eq l _ _ n2 n4, decide_eq_true_eq]; exact k1.2.1.symm
  · rw [kIn_map l m0 _ _ _ m1 m2 m3, kIn_map l m0 _ _ _ m3 m4 m1]; exact k2
  · obtain ⟨p1, p2, p3⟩ := k3 h
    simp only at p1 p2 p3
    rw [e3] at p2
    rw [e4] at p3
    simp only [Prod.mk.injEq] at p2 p3
    refine ⟨?_, ⟨p2.2.2, ?_, ?_⟩, ⟨p3.2.2, ?_, ?_⟩⟩
    · rw [rk_bl l _ _ m3 m1]
      by_cases g : rk l sl.toList < rk l rl.toList
      · simp only [g, decide_true, if_true] at p1 ⊢
        rw [rk_eq l _ _ n1 m3, decide_eq_true_eq]; exact p1
      · simp only [g, decide_false, if_false, Bool.false_eq_true] at p1 ⊢
        rw [rk_eq l _ _ n1 m1, decide_eq_true_eq]; exact p1
    · rw [rk_eq l _ _ n5 n1, decide_eq_true_eq]; exact p2.1
    · rw [rk_eq l _ _ n6 n2, decide_eq_true_eq]; exact p2.2.1
    · rw [rk_eq l _ _ n7 n1, decide_eq_true_eq]; exact p3.1
    · rw [rk_eq l _ _ n8 n2, decide_eq_true_eq]; exact p3.2.1
end Go.Proofs.Qxb6617417a.Jo
