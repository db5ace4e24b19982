import Derived.Test.Qxb6617339aCh4
namespace Go.Proofs.Qxb6617339a.Ch
open Go.RowKit Go.Deep

/-! ### The plain laws -/
theorem sumTo_split (S : Nat → Int) (c m : Nat) : sumTo S (c + m) = sumTo S c + sumTo (fun i => S (c + i)) m := by
  induction m with
  | zero => simp [sumTo]
  | succ m ih => rw [← Nat.add_assoc]; simp only [sumTo]; rw [ih]; omega
theorem anyTo_split (B : Nat → Bool) (c m : Nat) : anyTo B (c + m) = (anyTo B c || anyTo (fun i => B (c + i)) m) := by
  induction m with
  | zero => simp [anyTo]
  | succ m ih => rw [← Nat.add_assoc]; simp only [anyTo]; rw [ih, Bool.or_assoc]
theorem csz_bd (S : Nat → Int) (n : Nat) (hn : 1 ≤ n) (h : ∀ i, i < n → 0 ≤ S i ∧ S i ≤ 131073) : 0 ≤ csz S n ∧ csz S n ≤ 131073 := by
  have := (sumTo_bd S n n (Nat.le_refl _) h).1
  exact capS_bd _ (by omega)
/-- Two values by their index. -/
def two {α : Type} (a b : α) (i : Nat) : α := if i = 0 then a else b
theorem csz_nest (S : Nat → Int) (n c : Nat) (h1 : 1 ≤ c) (h2 : c + 1 ≤ n) (h : ∀ i, i < n → 0 ≤ S i ∧ S i ≤ 131073) :
    csz (two (csz S c) (csz (fun i => S (c + i)) (n - c))) 2 = csz S n := by
  obtain ⟨m, rfl⟩ : ∃ m, n = c + m := ⟨n - c, by omega⟩
  have e : c + m - c = m := by omega
  rw [e]
  have s1 := (sumTo_bd S c (c + m) (by omega) h).1
  have s2 := (sumTo_bd (fun i => S (c + i)) m m (Nat.le_refl _) (fun i hi => h (c + i) (by omega))).1
  unfold csz
  rw [sumTo_split]
  simp only [sumTo, two, if_true, Nat.one_ne_zero, if_false]
  generalize sumTo S c = x at *
  generalize sumTo (fun i => S (c + i)) m = y at *
  unfold capS
  repeat (split <;> try omega)
theorem anyTo_nest (B : Nat → Bool) (n c : Nat) (h2 : c ≤ n) : anyTo (two (anyTo B c) (anyTo (fun i => B (c + i)) (n - c))) 2 = anyTo B n := by
  obtain ⟨m, rfl⟩ : ∃ m, n = c + m := ⟨n - c, by omega⟩
  have e : c + m - c = m := by omega
  rw [e, anyTo_split]
  simp [anyTo, two]

theorem bytes5_any (a : Option Addr) (n cap : Nat) (x : Int) (hn : n ≤ 65536) (w : World) :
    Calls Try.prog 10 #[.slice a n cap, .int .i64 x] w fun e w' => e = .returned (.bool true) ∧ w' = w := by
  go_enter Try.func10, Try.ntmps10
  go_wp2
  go_ret
  exact ⟨rfl, rfl⟩
theorem bytes5_no (a : Option Addr) (n cap : Nat) (x : Int) (hm : n ≤ maxLen) (hn : 65536 < n) (w : World) :
    Calls Try.prog 10 #[.slice a n cap, .int .i64 x] w fun e w' => (e = .returned (.bool true) ∨ e = .returned (.bool false)) ∧ w' = w := by
  unfold maxLen at hm
  go_enter Try.func10, Try.ntmps10
  go_wp2
  all_goals (go_ret; exact ⟨by first | exact Or.inl rfl | exact Or.inr rfl, rfl⟩)

/-- Fewer than two, or more than 2^16: nothing is asked. -/
theorem cut_out (a : Option Addr) (n cap : Nat) (x : Int) (hm : n ≤ maxLen) (hn : n < 2 ∨ 65536 < n) (w : World) :
    Calls Try.prog 5 #[.slice a n cap, .int .i64 x] w fun e w' => e = .returned (.bool true) ∧ Below w.heap.size w w' := by
  rcases hn with hn | hn
  · go_enter Try.func5, Try.ntmps5
    go_wp2_with (go_at_call 10; refine (bytes5_any a n cap x (by omega) _).mono ?_; rintro e w' ⟨rfl, hw⟩; obtain rfl := hw.symm)
    go_ret
    exact ⟨rfl, Below.refl _ _⟩
  · have hm' := hm
    unfold maxLen at hm'
    go_enter Try.func5, Try.ntmps5
    go_wp2_with (go_at_call 10; refine (bytes5_no a n cap x hm hn _).mono ?_; rintro e w' ⟨rfl | rfl, hw⟩ <;> obtain rfl := hw.symm)
    all_goals (go_ret; exact ⟨rfl, Below.refl _ _⟩)

theorem Subs.sub {w : World} {b off n : Nat} {S : Nat → Int} {B : Nat → Bool} (h : Subs w b off n S B) (c m : Nat) (hc : c + m ≤ n) : Subs w b (off + c * 2) m (fun i => S (c + i)) (fun i => B (c + i)) :=
  ⟨h.1, fun i hi => by
    have := h.2 (c + i) (by omega)
    rw [show off + c * 2 + i * 2 = off + (c + i) * 2 from by omega]
    exact this⟩
theorem Ptrs.sub {w : World} {g off n : Nat} {ps : Nat → Nat} (h : Ptrs w g off n ps) (c m : Nat) (hc : c + m ≤ n) : Ptrs w g (off + c) m (fun i => ps (c + i)) :=
  ⟨h.1, fun i hi => by rw [Nat.add_assoc]; exact h.2 (c + i) (by omega)⟩
theorem Terms.sub {w : World} {n : Nat} {ps : Nat → Nat} {S : Nat → Int} {B : Nat → Bool} (h : Terms w n ps S B) (c m : Nat) (hc : c + m ≤ n) : Terms w m (fun i => ps (c + i)) (fun i => S (c + i)) (fun i => B (c + i)) :=
  fun i hi => h (c + i) (by omega)
theorem Subs.take {w : World} {b off n : Nat} {S : Nat → Int} {B : Nat → Bool} (h : Subs w b off n S B) (c : Nat) (hc : c ≤ n) : Subs w b off c S B := ⟨h.1, fun i hi => h.2 i (by omega)⟩
theorem Ptrs.take {w : World} {g off n : Nat} {ps : Nat → Nat} (h : Ptrs w g off n ps) (c : Nat) (hc : c ≤ n) : Ptrs w g off c ps := ⟨h.1, fun i hi => h.2 i (by omega)⟩
theorem Terms.take {w : World} {n : Nat} {ps : Nat → Nat} {S : Nat → Int} {B : Nat → Bool} (h : Terms w n ps S B) (c : Nat) (hc : c ≤ n) : Terms w c ps S B := fun i hi => h i (by omega)

end Go.Proofs.Qxb6617339a.Ch
