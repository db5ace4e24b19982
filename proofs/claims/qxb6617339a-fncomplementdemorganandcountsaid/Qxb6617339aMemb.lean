import Derived.Test.Qxb6617339aCompl
import Derived.BigQuiet
import Derived.Deep.QuietTactic
namespace Go.Proofs.Qxb6617339a
open Go.RowKit

/-- '==' on two equal [4]uint64. -/
theorem eq23 (a b c d : Int) (w : World) : (Op.equalIn 10000 23 (.agg #[.int .u64 a, .int .u64 b, .int .u64 c, .int .u64 d]) (.agg #[.int .u64 a, .int .u64 b, .int .u64 c, .int .u64 d])).run Try.prog w = .ok true w := by
  have u3 := Try.underlying22
  have a3 := Try.isAgg22
  have z3 := Try.sizeOf22
  rw [show (10000 : Nat) = 9999 + 1 from rfl, Op.equalIn]
  simp only [Sem.run_bind, run_underlying Try.underlying23, Result.andThen_ok]
  simp only [Std.Legacy.Range.forIn_eq_forIn_range', Std.Legacy.Range.size, Nat.sub_zero, Nat.add_sub_cancel, Nat.div_one, List.range'_succ, List.range'_zero, List.forIn_cons, List.forIn_nil]
  go_simp

theorem below_allocS {a w : World} (h : Below a.heap.size a w) (o : Obj) : Below a.heap.size a (w.alloc o) := h.alloc h.size o

set_option maxHeartbeats 1000000 in
set_option maxRecDepth 100000 in
theorem memb_walk (x0 x1 x2 x3 : Int) (hw : Words [x0, x1, x2, x3]) (w : World) :
    Calls Try.prog 3 #[.agg #[.int .u64 x0, .int .u64 x1, .int .u64 x2, .int .u64 x3]] w fun e w' =>
      e = .returned (.bool true) ∧ Below w.heap.size w w' := by
  have hn := words_not hw
  have hhas := fun b hb => has_not hw b hb
  simp only [List.map] at hn hhas
  go_enter Try.func3, Try.ntmps3
  go_wp2_with (go_at_call 7; refine (zzcomplement_w _ _ _ _ hw _).mono ?_; rintro e w' ⟨rfl, o1, o2, o3, o4, rfl⟩)
  go_loopw [4] (fun i wr => ∃ k : Nat, k ≤ 256 ∧ i = .int .i64 k ∧
      wr.cell? ⟨w.heap.size, 0, none⟩ = some (.int .u64 x0) ∧ wr.cell? ⟨w.heap.size, 1, none⟩ = some (.int .u64 x1) ∧ wr.cell? ⟨w.heap.size, 2, none⟩ = some (.int .u64 x2) ∧ wr.cell? ⟨w.heap.size, 3, none⟩ = some (.int .u64 x3) ∧
      wr.cell? ⟨w.heap.size + 5, 0, none⟩ = some (.int .u64 (notW x0)) ∧ wr.cell? ⟨w.heap.size + 5, 1, none⟩ = some (.int .u64 (notW x1)) ∧ wr.cell? ⟨w.heap.size + 5, 2, none⟩ = some (.int .u64 (notW x2)) ∧ wr.cell? ⟨w.heap.size + 5, 3, none⟩ = some (.int .u64 (notW x3)) ∧
      w.heap.size + 6 ≤ wr.heap.size ∧ Below w.heap.size w wr) (fun i _ => 256 - (intOf i).toNat)
  case atStart => 
    refine ⟨0, by omega, rfl, ?_, ?_, ?_, ?_, ?_, ?_, ?_, ?_, ?_, ?_⟩
    all_goals first | (simp [go_sem, World.cell?_alloc_past]; done) | skip
    repeat (first | exact Below.refl _ _ | refine below_allocS ?_ _)
  case round =>
    obtain ⟨k, hk, rfl, c0, c1, c2, c3, d0, d1, d2, d3, hsz, hB⟩ := hrel
    by_cases hlt : k < 256
    · have e1 := hhas k hlt
      have e2 : (hasP [notW x0, notW x1, notW x2, notW x3] k == hasP [x0, x1, x2, x3] k) = false := by rw [e1]; cases hasP [x0, x1, x2, x3] k <;> rfl
      clear e1 hhas
      have z1 : w.heap.size < wr.heap.size := by omega
      have z2 : w.heap.size + 5 < wr.heap.size := by omega
      go_wp2
      go_region_held3 (fun w' => w'.cell? ⟨w.heap.size, 0, none⟩ = some (.int .u64 x0) ∧ w'.cell? ⟨w.heap.size, 1, none⟩ = some (.int .u64 x1) ∧ w'.cell? ⟨w.heap.size, 2, none⟩ = some (.int .u64 x2) ∧ w'.cell? ⟨w.heap.size, 3, none⟩ = some (.int .u64 x3) ∧
      w'.cell? ⟨w.heap.size + 5, 0, none⟩ = some (.int .u64 (notW x0)) ∧ w'.cell? ⟨w.heap.size + 5, 1, none⟩ = some (.int .u64 (notW x1)) ∧ w'.cell? ⟨w.heap.size + 5, 2, none⟩ = some (.int .u64 (notW x2)) ∧ w'.cell? ⟨w.heap.size + 5, 3, none⟩ = some (.int .u64 (notW x3))) (simp [*, go_sem, World.cell?_alloc_past])
        (first
          | (go_at_call_of 8 (Value.int IntKind.u64 x0); refine (has_any _ _ _ _ k hw hlt _).mono ?_; rintro e w' ⟨rfl, o1, rfl⟩)
          | (go_at_call_of 8 (Value.int IntKind.u64 (notW x0)); refine (has_any _ _ _ _ k hn hlt _).mono ?_; rintro e w' ⟨rfl, o1, rfl⟩))
      go_wp2
      go_roundw
      case rel =>
        refine ⟨k + 1, by omega, by go_num, ?_, ?_, ?_, ?_, ?_, ?_, ?_, ?_, ?_, ?_⟩
        all_goals first | (simp [c0, c1, c2, c3, d0, d1, d2, d3, go_sem, World.cell?_alloc_past, z1, z2]; done) | skip
        · simp; omega
        · repeat (first | exact hB | refine Below.drew ?_ | refine below_allocS ?_ _)
      case measure => simp [intOf]; omega
    · have z1 : w.heap.size < wr.heap.size := by omega
      have z2 : w.heap.size < wr.heap.size + 1 := by omega
      have z3 : w.heap.size < wr.heap.size + 1 + 1 := by omega
      have z4 : w.heap.size < wr.heap.size + 1 + 1 + 1 := by omega
      have z5 : w.heap.size < wr.heap.size + 1 + 1 + 1 + 1 := by omega
      have q0 := notW_notW x0
      have q1 := notW_notW x1
      have q2 := notW_notW x2
      have q3 := notW_notW x3
      have hq := fun w => eq23 x0 x1 x2 x3 w
      go_wp2_with (go_at_call 7; refine (zzcomplement_w _ _ _ _ hn _).mono ?_; rintro e w' ⟨rfl, o1, o2, o3, o4, rfl⟩)
      go_ret
      refine ⟨rfl, ?_⟩
      repeat (first | exact hB | refine Below.drew ?_ | refine below_allocS ?_ _)
end Go.Proofs.Qxb6617339a
