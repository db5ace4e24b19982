import Derived.Test.Qxb6617417aJo1
namespace Go.Proofs.Qxb6617417a.Jo

/-! ### The order of strings: strict, total, the empty string least -/
theorem bl_irrefl (x : List UInt8) : Op.bytesLess x x = false := by
  induction x with
  | nil => rfl
  | cons a x ih => simp [Op.bytesLess, ih]
theorem bl_trans : ∀ x y z : List UInt8, Op.bytesLess x y = true → Op.bytesLess y z = true → Op.bytesLess x z = true
  | _, _, [], _, h => by cases ‹List UInt8› <;> simp [Op.bytesLess] at h
  | _, [], _ :: _, h, _ => by simp [Op.bytesLess] at h
  | [], _ :: _, _ :: _, _, _ => rfl
  | a :: x, b :: y, c :: z, h1, h2 => by
    simp only [Op.bytesLess, Bool.or_eq_true, Bool.and_eq_true, decide_eq_true_eq, beq_iff_eq] at h1 h2 ⊢
    rcases h1 with h1 | ⟨rfl, h1⟩
    · rcases h2 with h2 | ⟨rfl, h2⟩
      · exact Or.inl (UInt8.lt_trans h1 h2)
      · exact Or.inl h1
    · rcases h2 with h2 | ⟨rfl, h2⟩
      · exact Or.inl h2
      · exact Or.inr ⟨rfl, bl_trans x y z h1 h2⟩
theorem bl_total : ∀ x y : List UInt8, Op.bytesLess x y = false → Op.bytesLess y x = false → x = y
  | [], [], _, _ => rfl
  | [], _ :: _, h, _ => by simp [Op.bytesLess] at h
  | _ :: _, [], _, h => by simp [Op.bytesLess] at h
  | a :: x, b :: y, h1, h2 => by
    simp only [Op.bytesLess, Bool.or_eq_false_iff, Bool.and_eq_false_iff, decide_eq_false_iff_not] at h1 h2
    have e : a = b := by
      have h3 := h1.1
      have h4 := h2.1
      rw [UInt8.lt_iff_toNat_lt] at h3 h4
      exact UInt8.toNat_inj.1 (by omega)
    subst e
    have h3 : Op.bytesLess x y = false := by rcases h1.2 with h | h; · simp at h
                                             · exact h
    have h4 : Op.bytesLess y x = false := by rcases h2.2 with h | h; · simp at h
                                             · exact h
    rw [bl_total x y h3 h4]

theorem countP_mono {α : Type} (p q : α → Bool) (l : List α) (h : ∀ x, p x = true → q x = true) : l.countP p ≤ l.countP q := by
  induction l with
  | nil => simp
  | cons a l ih =>
    simp only [List.countP_cons]
    have := h a
    by_cases h1 : p a = true <;> by_cases h2 : q a = true <;> simp_all <;> omega
theorem countP_strict {α : Type} (p q : α → Bool) (l : List α) (h : ∀ x, p x = true → q x = true) (a : α) (ha : a ∈ l) (h1 : p a = false) (h2 : q a = true) : l.countP p < l.countP q := by
  induction l with
  | nil => simp at ha
  | cons b l ih =>
    simp only [List.countP_cons]
    rcases List.mem_cons.1 ha with rfl | ha
    · have := countP_mono p q l h
      simp [h1, h2]; omega
    · have := ih ha
      have := h b
      by_cases h1 : p b = true <;> by_cases h2 : q b = true <;> simp_all <;> omega

/-- The rank of a string among those of a list: how many lie below it. -/
def rk (l : List (List UInt8)) (x : List UInt8) : Nat := l.countP fun y => Op.bytesLess y x
theorem rk_lt (l : List (List UInt8)) (x y : List UInt8) (hx : x ∈ l) (h : Op.bytesLess x y = true) : rk l x < rk l y :=
  countP_strict _ _ l (fun z hz => bl_trans z x y hz h) x hx (bl_irrefl x) h
theorem rk_bl (l : List (List UInt8)) (x y : List UInt8) (hx : x ∈ l) (hy : y ∈ l) : Op.bytesLess x y = decide (rk l x < rk l y) := by
  cases h : Op.bytesLess x y
  · cases h' : Op.bytesLess y x
    · have := bl_total x y h h'; subst this; simp
    · have := rk_lt l y x hy h'
      symm; rw [decide_eq_false_iff_not]; omega
  · have := rk_lt l x y hx h
    symm; rw [decide_eq_true_eq]; exact this
theorem rk_eq (l : List (List UInt8)) (x y : List UInt8) (hx : x ∈ l) (hy : y ∈ l) : (x == y) = decide (rk l x = rk l y) := by
  by_cases e : x = y
  · subst e; simp
  · have h1 : (x == y) = false := by simp [e]
    rw [h1]; symm; rw [decide_eq_false_iff_not]
    intro h
    refine e (bl_total x y ?_ ?_)
    · rw [rk_bl l x y hx hy, decide_eq_false_iff_not]; omega
    · rw [rk_bl l y x hy hx, decide_eq_false_iff_not]; omega
theorem rk_nil (l : List (List UInt8)) : rk l [] = 0 := by
  unfold rk
  rw [List.countP_eq_zero]
  intro y _
  cases y <;> simp [Op.bytesLess]
theorem rk_empty (l : List (List UInt8)) (x : List UInt8) (h0 : [] ∈ l) : x.isEmpty = decide (rk l x = 0) := by
  cases x with
  | nil => simp [rk_nil]
  | cons a x =>
    have := rk_lt l [] (a :: x) h0 rfl
    symm; simp; omega

/-! ### The same functions over ranks -/
def rN (lo hi : Nat) : Bool := decide (hi = 0) || decide (lo < hi)
def kN (lo hi k : Nat) : Bool := (decide (lo < k) || decide (lo = k)) && (decide (hi = 0) || decide (k < hi))
def jON (rl rh sl sh : Nat) : Nat × Nat × Bool :=
  if rh = 0 then (rl, rh, true) else if rh < sl then (0, 0, false) else if sh = 0 then (rl, sh, true) else if rh < sh then (rl, sh, true) else (rl, rh, true)
def jN (rl rh sl sh : Nat) : Nat × Nat × Bool := if sl < rl then jON sl sh rl rh else jON rl rh sl sh


theorem rOK_map (l : List (List UInt8)) (h0 : [] ∈ l) (lo hi : ByteArray) (h1 : lo.toList ∈ l) (h2 : hi.toList ∈ l) : rOK lo hi = rN (rk l lo.toList) (rk l hi.toList) := by
  unfold rOK rN
  rw [rk_empty l _ h0, rk_bl l _ _ h1 h2]
theorem kIn_map (l : List (List UInt8)) (h0 : [] ∈ l) (lo hi k : ByteArray) (h1 : lo.toList ∈ l) (h2 : hi.toList ∈ l) (h3 : k.toList ∈ l) : kIn lo hi k = kN (rk l lo.toList) (rk l hi.toList) (rk l k.toList) := by
  unfold kIn kN
  rw [rk_empty l _ h0, rk_bl l _ _ h1 h3, rk_bl l _ _ h3 h2, rk_eq l _ _ h1 h3]
theorem jO_map (l : List (List UInt8)) (h0 : [] ∈ l) (rl rh sl sh : ByteArray) (h1 : rl.toList ∈ l) (h2 : rh.toList ∈ l) (h3 : sl.toList ∈ l) (h4 : sh.toList ∈ l) :
    (jO rl rh sl sh).1.toList ∈ l ∧ (jO rl rh sl sh).2.1.toList ∈ l ∧ jON (rk l rl.toList) (rk l rh.toList) (rk l sl.toList) (rk l sh.toList) = (rk l (jO rl rh sl sh).1.toList, rk l (jO rl rh sl sh).2.1.toList, (jO rl rh sl sh).2.2) := by
  unfold jO jON
  rw [rk_empty l rh.toList h0, rk_empty l sh.toList h0, rk_bl l rh.toList sl.toList h2 h3, rk_bl l sh.toList rh.toList h4 h2, rk_eq l sh.toList rh.toList h4 h2]
  have e0 : (⟨#[]⟩ : ByteArray).toList = [] := by kernel_rfl
  simp only [decide_eq_true_eq, Bool.and_eq_true, Bool.not_eq_true', decide_eq_false_iff_not]
  by_cases g1 : rk l rh.toList = 0
  · simp [g1, h1, h2]
  · by_cases g2 : rk l rh.toList < rk l sl.toList
    · simp [g1, g2, e0, h0, rk_nil]
    · by_cases g3 : rk l sh.toList = 0
      · simp [g1, g2, g3, h1, h4]
      · by_cases g4 : rk l rh.toList < rk l sh.toList
        · have g5 : ¬ rk l sh.toList < rk l rh.toList ∧ ¬ rk l sh.toList = rk l rh.toList := by omega
          simp only [g1, g2, g3, g4, if_true, if_false]
          rw [if_pos g5]
          exact ⟨h1, h4, rfl⟩
        · have g5 : ¬ (¬ rk l sh.toList < rk l rh.toList ∧ ¬ rk l sh.toList = rk l rh.toList) := by omega
          simp only [g1, g2, g3, g4, if_false]
          rw [if_neg g5]
          exact ⟨h1, h2, rfl⟩
theorem jB_map (l : List (List UInt8)) (h0 : [] ∈ l) (rl rh sl sh : ByteArray) (h1 : rl.toList ∈ l) (h2 : rh.toList ∈ l) (h3 : sl.toList ∈ l) (h4 : sh.toList ∈ l) :
    (jB rl rh sl sh).1.toList ∈ l ∧ (jB rl rh sl sh).2.1.toList ∈ l ∧ jN (rk l rl.toList) (rk l rh.toList) (rk l sl.toList) (rk l sh.toList) = (rk l (jB rl rh sl sh).1.toList, rk l (jB rl rh sl sh).2.1.toList, (jB rl rh sl sh).2.2) := by
  unfold jB jN
  rw [rk_bl l sl.toList rl.toList h3 h1]
  simp only [decide_eq_true_eq]
  by_cases g : rk l sl.toList < rk l rl.toList
  · simp only [g, if_true]
    exact jO_map l h0 sl sh rl rh h3 h4 h1 h2
  · simp only [g, if_false]
    exact jO_map l h0 rl rh sl sh h1 h2 h3 h4
end Go.Proofs.Qxb6617417a.Jo
