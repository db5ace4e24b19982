import Derived.Test.Qxb6617339aMemb
namespace Go.Proofs.Qxb6617339a
open Go.RowKit

/-- How many of the first k bytes are in the set. -/
def cntP (l : List Int) : Nat → Nat
  | 0 => 0
  | k + 1 => cntP l k + (if hasP l k = true then 1 else 0)

theorem cntP_le (l : List Int) (k : Nat) : cntP l k ≤ k := by
  induction k with
  | zero => exact Nat.le_refl _
  | succ k ih => simp only [cntP]; split <;> omega

theorem cntP_not {l : List Int} (h : Words l) (k : Nat) (hk : k ≤ 256) : cntP (l.map notW) k + cntP l k = k := by
  induction k with
  | zero => rfl
  | succ k ih =>
    have := ih (by omega)
    simp only [cntP]
    rw [has_not h k (by omega)]
    cases hasP l k <;> simp <;> omega

set_option maxHeartbeats 1000000 in
set_option maxRecDepth 100000 in
theorem count_any (x0 x1 x2 x3 : Int) (hw : Words [x0, x1, x2, x3]) (w : World) :
    Calls Try.prog 9 #[.agg #[.int .u64 x0, .int .u64 x1, .int .u64 x2, .int .u64 x3]] w fun e w' =>
      e = .returned (.int .i64 (cntP [x0, x1, x2, x3] 256)) ∧ Below w.heap.size w w' := by
  go_enter Try.func9, Try.ntmps9
  go_wp2
  go_loopw [3, 4] (fun n i wr => ∃ k : Nat, k ≤ 256 ∧ i = .int .i64 k ∧ n = .int .i64 (cntP [x0, x1, x2, x3] k) ∧
      wr.cell? ⟨w.heap.size, 0, none⟩ = some (.int .u64 x0) ∧ wr.cell? ⟨w.heap.size, 1, none⟩ = some (.int .u64 x1) ∧ wr.cell? ⟨w.heap.size, 2, none⟩ = some (.int .u64 x2) ∧ wr.cell? ⟨w.heap.size, 3, none⟩ = some (.int .u64 x3) ∧
      w.heap.size + 1 ≤ wr.heap.size ∧ Below w.heap.size w wr) (fun _ i _ => 256 - (intOf i).toNat)
  case atStart =>
    refine ⟨0, by omega, rfl, rfl, ?_, ?_, ?_, ?_, ?_, ?_⟩
    all_goals first | (simp [go_sem]; done) | skip
    repeat (first | exact Below.refl _ _ | refine below_allocS ?_ _)
  case round =>
    obtain ⟨k, hk, rfl, rfl, c0, c1, c2, c3, hsz, hB⟩ := hrel
    have hle := cntP_le [x0, x1, x2, x3] k
    have z1 : w.heap.size < wr.heap.size := by omega
    by_cases hlt : k < 256
    · cases hc : hasP [x0, x1, x2, x3] k
      all_goals
        have HC := hide hc
        go_wp2_with (go_at_call 8; refine (has_any _ _ _ _ k hw hlt _).mono ?_; rintro e w' ⟨rfl, o1, rfl⟩)
        go_roundw
        case rel =>
          refine ⟨k + 1, by omega, by go_num, ?_, ?_, ?_, ?_, ?_, ?_, ?_⟩
          all_goals first | (simp [c0, c1, c2, c3, go_sem, World.cell?_alloc_past, z1]; done) | skip
          · simp [cntP, HC.out]
          · simp; omega
          · repeat (first | exact hB | refine Below.drew ?_ | refine below_allocS ?_ _)
        case measure => simp [intOf]; omega
    · obtain rfl : k = 256 := by omega
      go_wp2
      go_ret
      exact ⟨rfl, hB⟩
end Go.Proofs.Qxb6617339a
