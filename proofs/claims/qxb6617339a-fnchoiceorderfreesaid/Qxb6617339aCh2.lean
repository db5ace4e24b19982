import Derived.Test.Qxb6617339aCh1
namespace Go.Proofs.Qxb6617339a.Ch
open Go.RowKit Go.Deep

theorem Try.info35 : (Try.prog.info? 35).map (fun i => (i.zero, i.size, i.bytes)) = some (some (.pointer none), 1, 8) := by kernel_rfl

theorem terms_step (w wr : World) (n k : Nat) (S : Nat → Int) (B : Nat → Bool) (ps : Nat → Nat) (hB : Below w.heap.size w wr)
    (hrow : wr.rowIs w.heap.size 35 n (fun j => if j < k then .pointer (some ⟨ps j, 0, none⟩) else .pointer none)) (hT : ∀ j, j < k → w.heap.size < ps j ∧ TermOK wr (ps j) (S j) (B j))
    (W1 : World) (hW : W1 = ((wr.setCell ⟨w.heap.size, k, none⟩ (.pointer (some ⟨wr.heap.size, 0, none⟩))).alloc (.cells (tcells 0 (B k) (S k) (.slice none 0 0)) 55)).drew) :
    Below w.heap.size w W1 ∧ ∃ ps' : Nat → Nat, W1.rowIs w.heap.size 35 n (fun j => if j < k + 1 then .pointer (some ⟨ps' j, 0, none⟩) else .pointer none) ∧ ∀ j, j < k + 1 → w.heap.size < ps' j ∧ TermOK W1 (ps' j) (S j) (B j) := by
  subst hW
  have hz := hrow.lt
  have hsz : (wr.setCell ⟨w.heap.size, k, none⟩ (.pointer (some ⟨wr.heap.size, 0, none⟩))).heap.size = wr.heap.size := by simp [World.setCell]
  refine ⟨(below_allocS (hB.setCell (Nat.le_refl _) _) _).drew, fun j => if j = k then wr.heap.size else ps j, ?_, ?_⟩
  · refine ((hrow.set k _).alloc _).congr fun j _ => ?_
    by_cases e : j = k
    · subst e; simp
    · have : (j < k + 1) = (j < k) := by apply propext; omega
      simp [e, this]
  · intro j hj
    by_cases e : j = k
    · subst e
      simp only [if_true]
      refine ⟨hz, ?_⟩
      have := TermOK.new (wr.setCell ⟨w.heap.size, j, none⟩ (.pointer (some ⟨wr.heap.size, 0, none⟩))) 0 (B j) (S j) (.slice none 0 0)
      rw [hsz] at this
      exact this
    · simp only [e, if_false]
      obtain ⟨h1, h2⟩ := hT j (by omega)
      exact ⟨h1, (h2.setOther (a := ⟨w.heap.size, k, none⟩) (by show ps j ≠ w.heap.size; omega) _).next (below_allocS (Below.refl _ _) _).drew⟩

set_option maxHeartbeats 1000000 in
set_option maxRecDepth 100000 in
theorem terms_any (b off n cap : Nat) (S : Nat → Int) (B : Nat → Bool) (hn : n ≤ 65536) (w : World) (hs : Subs w b off n S B) :
    Calls Try.prog 11 #[.slice (some ⟨b, off, none⟩) n cap] w fun e w' => e = .returned (.slice (some ⟨w.heap.size, 0, none⟩) n n) ∧
      Below w.heap.size w w' ∧ ∃ ps : Nat → Nat, w'.rowIs w.heap.size 35 n (fun i => .pointer (some ⟨ps i, 0, none⟩)) ∧ Terms w' n ps S B := by
  have hmk := run_make_row' (P := Try.prog) 33 35 (.pointer none) 8 Try.underlying33 Try.info35 rfl .i64 .i64 n (by omega) (by omega)
  go_enter Try.func11, Try.ntmps11
  go_wp2
  clear hmk
  go_loopw [4] (fun i wr => ∃ k : Nat, k ≤ n ∧ i = .int .i64 k ∧ Below w.heap.size w wr ∧
      ∃ ps : Nat → Nat, wr.rowIs w.heap.size 35 n (fun j => if j < k then .pointer (some ⟨ps j, 0, none⟩) else .pointer none) ∧ ∀ j, j < k → w.heap.size < ps j ∧ TermOK wr (ps j) (S j) (B j)) (fun i _ => n - (intOf i).toNat)
  case atStart =>
    refine ⟨0, by omega, rfl, below_allocS (Below.refl _ _) _, fun _ => 0, (World.rowIs_made w (.pointer none) n 35).congr (fun i _ => by simp), fun j hj => absurd hj (Nat.not_lt_zero _)⟩
  case round =>
    obtain ⟨k, hk, rfl, hB, ps, hrow, hT⟩ := hrel
    by_cases hlt : k < n
    · obtain ⟨c0, c1⟩ := (hs.next hB).2 k hlt
      have HR := hide hrow
      have HT := hide hT
      have fz := hrow.frozen k
      have cz : wr.cell? ⟨w.heap.size, k, none⟩ = some (.pointer none) := by rw [hrow.cell hlt]; simp
      have zz := hrow.lt
      clear hrow hT
      go_wp2
      go_region_with (go_at_call 19; refine (newTerm_any _ _ _).mono ?_; rintro e w' ⟨rfl, rfl⟩)
      all_goals
        have R := terms_step w wr n k S B ps hB HR.out HT.out _ rfl
        go_wp2
        go_roundw
        case rel => exact ⟨k + 1, by omega, by go_num, R.1, R.2⟩
        case measure => simp [intOf]; omega
    · obtain rfl : k = n := by omega
      go_wp2
      go_ret
      exact ⟨rfl, hB, ps, hrow.congr (fun i hi => by simp [hi]), fun j hj => (hT j hj).2⟩

theorem copy_step (w wr : World) (n k : Nat) (ps : Nat → Nat) (hB : Below w.heap.size w wr)
    (hrow : wr.rowIs w.heap.size 35 n (fun j => if j < k then .pointer (some ⟨ps j, 0, none⟩) else .pointer none))
    (W1 : World) (hW : W1 = wr.setCell ⟨w.heap.size, k, none⟩ (.pointer (some ⟨ps k, 0, none⟩))) :
    Below w.heap.size w W1 ∧ W1.rowIs w.heap.size 35 n (fun j => if j < k + 1 then .pointer (some ⟨ps j, 0, none⟩) else .pointer none) := by
  subst hW
  refine ⟨hB.setCell (Nat.le_refl _) _, (hrow.set k _).congr fun j _ => ?_⟩
  by_cases e : j = k
  · subst e; simp
  · have : (j < k + 1) = (j < k) := by apply propext; omega
    simp [e, this]

set_option maxHeartbeats 1000000 in
set_option maxRecDepth 100000 in
theorem copy_any (g off n cap : Nat) (ps : Nat → Nat) (hn : n ≤ 65536) (w : World) (hp : Ptrs w g off n ps) :
    Calls Try.prog 14 #[.slice (some ⟨g, off, none⟩) n cap] w fun e w' => e = .returned (.slice (some ⟨w.heap.size, 0, none⟩) n n) ∧
      Below w.heap.size w w' ∧ w'.rowIs w.heap.size 35 n (fun i => .pointer (some ⟨ps i, 0, none⟩)) := by
  have hmk := run_make_row' (P := Try.prog) 33 35 (.pointer none) 8 Try.underlying33 Try.info35 rfl .i64 .i64 n (by omega) (by omega)
  go_enter Try.func14, Try.ntmps14
  go_wp2
  clear hmk
  go_loopw [4] (fun i wr => ∃ k : Nat, k ≤ n ∧ i = .int .i64 k ∧ Below w.heap.size w wr ∧
      wr.rowIs w.heap.size 35 n (fun j => if j < k then .pointer (some ⟨ps j, 0, none⟩) else .pointer none)) (fun i _ => n - (intOf i).toNat)
  case atStart =>
    refine ⟨0, by omega, rfl, below_allocS (Below.refl _ _) _, (World.rowIs_made w (.pointer none) n 35).congr (fun i _ => by simp)⟩
  case round =>
    obtain ⟨k, hk, rfl, hB, hrow⟩ := hrel
    by_cases hlt : k < n
    · have c0 := (hp.next hB).2 k hlt
      have HR := hide hrow
      have fz := hrow.frozen k
      have cz : wr.cell? ⟨w.heap.size, k, none⟩ = some (.pointer none) := by rw [hrow.cell hlt]; simp
      have zz := hrow.lt
      clear hrow
      have R := hide (copy_step w wr n k ps hB HR.out _ rfl)
      go_wp2
      go_roundw
      case rel => exact ⟨k + 1, by omega, by go_num, R.out.1, R.out.2⟩
      case measure => simp [intOf]; omega
    · obtain rfl : k = n := by omega
      go_wp2
      go_ret
      exact ⟨rfl, hB, hrow.congr (fun i hi => by simp [hi])⟩

end Go.Proofs.Qxb6617339a.Ch
