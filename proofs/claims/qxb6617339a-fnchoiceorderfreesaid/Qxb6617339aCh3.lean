import Derived.Test.Qxb6617339aCh2
namespace Go.Proofs.Qxb6617339a.Ch
open Go.RowKit Go.Deep

/-- Block t is the alternation of the n terms of the slice at ⟨g, off⟩, of size s and flag b. -/
def IsChoice (w : World) (t : Nat) (s : Int) (b : Bool) (g off n cap : Nat) : Prop :=
  t < w.heap.size ∧ w.cell? ⟨t, 0, none⟩ = some (.int .u8 3) ∧ w.cell? ⟨t, 3, none⟩ = some (.bool b) ∧ w.cell? ⟨t, 6, none⟩ = some (.int .i64 s) ∧ w.cell? ⟨t, 8, none⟩ = some (.slice (some ⟨g, off, none⟩) n cap)
theorem IsChoice.next {W w1 : World} {t : Nat} {s : Int} {b : Bool} {g off n cap : Nat} (h : IsChoice W t s b g off n cap) (hb : Below W.heap.size W w1) : IsChoice w1 t s b g off n cap := by
  obtain ⟨h0, h1, h2, h3, h4⟩ := h
  have hc := bcell hb
  exact ⟨Nat.lt_of_lt_of_le h0 hb.size, by rw [hc _ _ h0, h1], by rw [hc _ _ h0, h2], by rw [hc _ _ h0, h3], by rw [hc _ _ h0, h4]⟩
theorem IsChoice.term {W : World} {t : Nat} {s : Int} {b : Bool} {g off n cap : Nat} (h : IsChoice W t s b g off n cap) : TermOK W t s b := ⟨h.1, h.2.2.2.1, h.2.2.1⟩

/-- The row of a term under construction. -/
def tf (b : Bool) (s : Int) (v : Value) (j : Nat) : Value := (tcells 3 b s v).getD j undef
theorem tf_row (W : World) (b : Bool) (s : Int) (v : Value) : (W.alloc (.cells (tcells 3 b s v) 55)).rowIs W.heap.size 55 9 (tf b s v) :=
  World.rowIs_alloc W (tcells 3 b s v) 55 (tf b s v) (fun i hi => by unfold tf; rw [Array.getD_eq_getD_getElem?, Array.getElem?_eq_getElem hi]; rfl)
theorem choice_of_row {W : World} {t : Nat} {b : Bool} {s : Int} {g off n cap : Nat} (h : W.rowIs t 55 9 (tf b s (.slice (some ⟨g, off, none⟩) n cap))) : IsChoice W t s b g off n cap :=
  ⟨h.lt, h.cell (i := 0) (by omega), h.cell (i := 3) (by omega), h.cell (i := 6) (by omega), h.cell (i := 8) (by omega)⟩
theorem tf_set6 {W : World} {t : Nat} {b : Bool} {s s' : Int} {v : Value} (h : W.rowIs t 55 9 (tf b s v)) : (W.setCell ⟨t, 6, none⟩ (.int .i64 s')).rowIs t 55 9 (tf b s' v) := by
  refine (h.set 6 _).congr fun j hj => ?_
  have : j = 0 ∨ j = 1 ∨ j = 2 ∨ j = 3 ∨ j = 4 ∨ j = 5 ∨ j = 6 ∨ j = 7 ∨ j = 8 := by omega
  rcases this with rfl | rfl | rfl | rfl | rfl | rfl | rfl | rfl | rfl <;> rfl
theorem tf_set3 {W : World} {t : Nat} {b b' : Bool} {s : Int} {v : Value} (h : W.rowIs t 55 9 (tf b s v)) : (W.setCell ⟨t, 3, none⟩ (.bool b')).rowIs t 55 9 (tf b' s v) := by
  refine (h.set 3 _).congr fun j hj => ?_
  have : j = 0 ∨ j = 1 ∨ j = 2 ∨ j = 3 ∨ j = 4 ∨ j = 5 ∨ j = 6 ∨ j = 7 ∨ j = 8 := by omega
  rcases this with rfl | rfl | rfl | rfl | rfl | rfl | rfl | rfl | rfl <;> rfl

theorem capS_bd (x : Int) (h : 0 ≤ x) : 0 ≤ capS x ∧ capS x ≤ 131073 := by unfold capS; split <;> omega
theorem capS_add (x y : Int) (h : 0 ≤ y) : capS (capS x + y) = capS (x + y) := by unfold capS; repeat (split <;> try omega)
theorem capS_small (x : Int) (h : x ≤ 131073) : capS x = x := by unfold capS; rw [if_neg (by omega)]

set_option maxHeartbeats 1000000 in
set_option maxRecDepth 100000 in
theorem choice_any (g off n cap : Nat) (ps : Nat → Nat) (S : Nat → Int) (B : Nat → Bool) (hn1 : 1 ≤ n) (hn : n ≤ 65536) (hS : ∀ i, i < n → 0 ≤ S i ∧ S i ≤ 131073) (w : World) (hp : Ptrs w g off n ps) (ht : Terms w n ps S B) :
    Calls Try.prog 20 #[.slice (some ⟨g, off, none⟩) n cap] w fun e w' => e = .returned (.pointer (some ⟨w.heap.size, 0, none⟩)) ∧
      Below w.heap.size w w' ∧ IsChoice w' w.heap.size (csz S n) (anyTo B n) g off n cap := by
  have HS := hide hS
  clear hS
  go_enter Try.func20, Try.ntmps20
  go_wp2
  go_loopw [14] (fun i wr => ∃ k : Nat, k ≤ n ∧ i = .int .i64 k ∧ Below w.heap.size w wr ∧
      wr.rowIs w.heap.size 55 9 (tf (anyTo B k) (capS ((n : Int) - 1 + sumTo S k)) (.slice (some ⟨g, off, none⟩) n cap))) (fun i _ => n - (intOf i).toNat)
  case atStart =>
    refine ⟨0, by omega, rfl, below_allocS (Below.refl _ _) _, ?_⟩
    have e : capS ((n : Int) - 1 + sumTo S 0) = (n : Int) - 1 := by rw [capS_small _ (by simp [sumTo]; omega)]; simp [sumTo]
    rw [e]
    exact tf_row w false ((n : Int) - 1) (.slice (some ⟨g, off, none⟩) n cap)
  case round =>
    obtain ⟨k, hk, rfl, hB, hrow⟩ := hrel
    obtain ⟨s0, s1⟩ := sumTo_bd S k n hk HS.out
    by_cases hlt : k < n
    · have c0 := (hp.next hB).2 k hlt
      obtain ⟨q0, q1, q2⟩ := (ht.next hB) k hlt
      obtain ⟨b0, b1⟩ := HS.out k hlt
      obtain ⟨cb0, cb1⟩ := capS_bd ((n : Int) - 1 + sumTo S k) (by omega)
      have HR := hide hrow
      have fz3 := hrow.frozen 3
      have fz6 := hrow.frozen 6
      have d3 : wr.cell? ⟨w.heap.size, 3, none⟩ = some (.bool (anyTo B k)) := hrow.cell (i := 3) (by omega)
      have d6 : wr.cell? ⟨w.heap.size, 6, none⟩ = some (.int .i64 (capS ((n : Int) - 1 + sumTo S k))) := hrow.cell (i := 6) (by omega)
      have zz := hrow.lt
      clear hrow s0 s1
      have R : ∀ v, ((wr.setCell ⟨w.heap.size, 6, none⟩ (.int .i64 (capS (capS ((n : Int) - 1 + sumTo S k) + S k)))).setCell ⟨w.heap.size, 3, none⟩ (.bool v)).drew.rowIs w.heap.size 55 9
          (tf v (capS ((n : Int) - 1 + sumTo S (k + 1))) (.slice (some ⟨g, off, none⟩) n cap)) := fun v => by
        have h := tf_set3 (b' := v) (tf_set6 (s' := capS (capS ((n : Int) - 1 + sumTo S k) + S k)) HR.out)
        rw [capS_add _ _ b0] at h ⊢
        simp only [sumTo]
        rw [← Int.add_assoc]
        exact h.drew
      have HRR := hide R
      clear R HR
      generalize hX : capS ((n : Int) - 1 + sumTo S k) = X at *
      have HX := hide hX
      clear hX
      have hps : ps k ≠ w.heap.size := by have := (ht k hlt).1; omega
      cases hA : anyTo B k
      all_goals
        rw [hA] at d3
        have HA := hide hA
        clear hA
        go_wp2
        go_region_with (go_at_call 25; refine (addSizes_any _ _ cb0 cb1 b0 b1 _).mono ?_; rintro e w' ⟨rfl, rfl⟩)
        all_goals
          go_wp2
          go_roundw
          case rel =>
            refine ⟨k + 1, by omega, by go_num, ?_, ?_⟩
            · exact ((hB.setCell (Nat.le_refl _) _).setCell (Nat.le_refl _) _).drew
            · have h := HRR.out (anyTo B (k + 1))
              simpa [anyTo, HA.out] using h
          case measure => simp [intOf]; omega
    · obtain rfl : k = n := by omega
      go_wp2
      go_ret
      exact ⟨rfl, hB, choice_of_row hrow⟩

theorem zzChoice_any (g off n cap : Nat) (ps : Nat → Nat) (S : Nat → Int) (B : Nat → Bool) (hn1 : 1 ≤ n) (hn : n ≤ 65536) (hS : ∀ i, i < n → 0 ≤ S i ∧ S i ≤ 131073) (w : World) (hp : Ptrs w g off n ps) (ht : Terms w n ps S B) :
    Calls Try.prog 12 #[.slice (some ⟨g, off, none⟩) n cap] w fun e w' => e = .returned (.pointer (some ⟨w.heap.size, 0, none⟩)) ∧
      Below w.heap.size w w' ∧ IsChoice w' w.heap.size (csz S n) (anyTo B n) g off n cap := by
  go_enter Try.func12, Try.ntmps12
  go_wp2_with (go_at_call 20; refine (choice_any g off n cap ps S B hn1 hn hS _ hp ht).mono ?_; rintro e w' ⟨rfl, hb, hc⟩)
  go_ret
  exact ⟨rfl, hb, hc⟩

end Go.Proofs.Qxb6617339a.Ch
