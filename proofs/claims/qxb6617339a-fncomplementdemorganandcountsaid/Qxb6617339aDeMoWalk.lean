import Derived.Test.Qxb6617339aDeMo
namespace Go.Proofs.Qxb6617339a
open Go.RowKit

set_option maxHeartbeats 2000000 in
set_option maxRecDepth 100000 in
theorem demo_walk (x0 x1 x2 x3 y0 y1 y2 y3 : Int) (hx : Words [x0, x1, x2, x3]) (hy : Words [y0, y1, y2, y3]) (w : World) :
    Calls Try.prog 4 #[.agg #[.int .u64 x0, .int .u64 x1, .int .u64 x2, .int .u64 x3], .agg #[.int .u64 y0, .int .u64 y1, .int .u64 y2, .int .u64 y3]] w fun e w' =>
      e = .returned (.bool true) ∧ Below w.heap.size w w' := by
  obtain ⟨⟨p0, p1⟩, ⟨p2, p3⟩, ⟨p4, p5⟩, ⟨p6, p7⟩⟩ := words4 hx
  obtain ⟨⟨q0, q1⟩, ⟨q2, q3⟩, ⟨q4, q5⟩, ⟨q6, q7⟩⟩ := words4 hy
  have ho : Words [bits .or .u64 x0 y0, bits .or .u64 x1 y1, bits .or .u64 x2 y2, bits .or .u64 x3 y3] :=
    words4_mk ⟨or_word _ _ p0 p1 q0 q1, or_word _ _ p2 p3 q2 q3, or_word _ _ p4 p5 q4 q5, or_word _ _ p6 p7 q6 q7⟩
  have ha : Words [bits .and .u64 x0 y0, bits .and .u64 x1 y1, bits .and .u64 x2 y2, bits .and .u64 x3 y3] :=
    words4_mk ⟨and_word _ _ p0 p1 q0 q1, and_word _ _ p2 p3 q2 q3, and_word _ _ p4 p5 q4 q5, and_word _ _ p6 p7 q6 q7⟩
  have N0 := hide (not_or_w _ _ p0 p1 q0 q1)
  have N1 := hide (not_or_w _ _ p2 p3 q2 q3)
  have N2 := hide (not_or_w _ _ p4 p5 q4 q5)
  have N3 := hide (not_or_w _ _ p6 p7 q6 q7)
  have M0 := hide (not_and_w _ _ p0 p1 q0 q1)
  have M1 := hide (not_and_w _ _ p2 p3 q2 q3)
  have M2 := hide (not_and_w _ _ p4 p5 q4 q5)
  have M3 := hide (not_and_w _ _ p6 p7 q6 q7)
  clear p0 p1 p2 p3 p4 p5 p6 p7 q0 q1 q2 q3 q4 q5 q6 q7
  obtain ⟨m1, HYm1⟩ : ∃ n, n = cntP [x0, x1, x2, x3] 256 := ⟨_, rfl⟩
  obtain ⟨m2, HYm2⟩ : ∃ n, n = cntP [notW x0, notW x1, notW x2, notW x3] 256 := ⟨_, rfl⟩
  obtain ⟨m3, HYm3⟩ : ∃ n, n = cntP [y0, y1, y2, y3] 256 := ⟨_, rfl⟩
  obtain ⟨m4, HYm4⟩ : ∃ n, n = cntP [notW y0, notW y1, notW y2, notW y3] 256 := ⟨_, rfl⟩
  have C1 : Hid (∀ w, Calls Try.prog 9 #[.agg #[.int .u64 x0, .int .u64 x1, .int .u64 x2, .int .u64 x3]] w fun e w' => e = .returned (.int .i64 (m1 : Nat)) ∧ Below w.heap.size w w') := by
    have h := count_any x0 x1 x2 x3 hx
    rw [← HYm1] at h
    exact h
  have C2 : Hid (∀ w, Calls Try.prog 9 #[.agg #[.int .u64 (notW x0), .int .u64 (notW x1), .int .u64 (notW x2), .int .u64 (notW x3)]] w fun e w' => e = .returned (.int .i64 (m2 : Nat)) ∧ Below w.heap.size w w') := by
    have h := count_any (notW x0) (notW x1) (notW x2) (notW x3) (words_not hx)
    rw [← HYm2] at h
    exact h
  have C3 : Hid (∀ w, Calls Try.prog 9 #[.agg #[.int .u64 y0, .int .u64 y1, .int .u64 y2, .int .u64 y3]] w fun e w' => e = .returned (.int .i64 (m3 : Nat)) ∧ Below w.heap.size w w') := by
    have h := count_any y0 y1 y2 y3 hy
    rw [← HYm3] at h
    exact h
  have C4 : Hid (∀ w, Calls Try.prog 9 #[.agg #[.int .u64 (notW y0), .int .u64 (notW y1), .int .u64 (notW y2), .int .u64 (notW y3)]] w fun e w' => e = .returned (.int .i64 (m4 : Nat)) ∧ Below w.heap.size w w') := by
    have h := count_any (notW y0) (notW y1) (notW y2) (notW y3) (words_not hy)
    rw [← HYm4] at h
    exact h
  have e1 : ((m2 : Int) == IntKind.i64.wrap (256 - (m1 : Int))) = true := by
    have h1 := cntP_not hx 256 (Nat.le_refl _)
    simp only [List.map] at h1
    rw [← HYm1, ← HYm2] at h1
    exact wrap_sub _ _ h1
  have e2 : ((m4 : Int) == IntKind.i64.wrap (256 - (m3 : Int))) = true := by
    have h1 := cntP_not hy 256 (Nat.le_refl _)
    simp only [List.map] at h1
    rw [← HYm3, ← HYm4] at h1
    exact wrap_sub _ _ h1
  have l1 : m1 ≤ 256 := by rw [HYm1]; exact cntP_le _ _
  have l3 : m3 ≤ 256 := by rw [HYm3]; exact cntP_le _ _
  clear HYm1 HYm2 HYm3 HYm4
  go_enter Try.func4, Try.ntmps4
  go_wp2
  refine wp_loop_rounds 5 ?_
  rw [rounds_succ]
  go_wp2
  go_region
  go_wp2
  go_region
  go_wp2
  rw [rounds_succ]
  go_wp2
  go_region
  go_wp2
  go_region
  go_wp2
  rw [rounds_succ]
  go_wp2
  go_region
  go_wp2
  go_region
  go_wp2
  rw [rounds_succ]
  go_wp2
  go_region
  go_wp2
  go_region
  go_wp2
  rw [rounds_succ]
  go_wp2_with fail
  refine (zzcomplement_b _ _ _ _ hx _).mono ?_
  rintro e w1 ⟨rfl, hb⟩
  have hB : Below w.heap.size w w1 := by
    refine Below.trans ?_ (hb.mono (by simp; omega))
    refine Below.drew (Below.drew (Below.drew (Below.drew (Below.drew (Below.drew (Below.drew (Below.drew ?_)))))))
    exact below_allocS (below_allocS (below_allocS (below_allocS (Below.refl _ _) _) _) _) _
  have rx : Row4 w1 w.heap.size x0 x1 x2 x3 := Row4.next (by refine ⟨by simp <;> omega, ?_, ?_, ?_, ?_⟩ <;> simp [go_sem]) hb
  have ry : Row4 w1 (w.heap.size + 1) y0 y1 y2 y3 := Row4.next (by refine ⟨by simp <;> omega, ?_, ?_, ?_, ?_⟩ <;> simp [go_sem]) hb
  have ro : Row4 w1 (w.heap.size + 1 + 1) (bits .or .u64 x0 y0) (bits .or .u64 x1 y1) (bits .or .u64 x2 y2) (bits .or .u64 x3 y3) := Row4.next (by refine ⟨by simp <;> omega, ?_, ?_, ?_, ?_⟩ <;> simp [go_sem]) hb
  have ra : Row4 w1 (w.heap.size + 1 + 1 + 1) (bits .and .u64 x0 y0) (bits .and .u64 x1 y1) (bits .and .u64 x2 y2) (bits .and .u64 x3 y3) := Row4.next (by refine ⟨by simp <;> omega, ?_, ?_, ?_, ?_⟩ <;> simp [go_sem]) hb
  clear hb
  obtain ⟨z0, c0, c1, c2, c3⟩ := id ry
  go_wp2_with fail
  refine (zzcomplement_b _ _ _ _ hy _).mono ?_
  rintro e w2 ⟨rfl, hb⟩
  clear z0 c0 c1 c2 c3
  replace hB : Below w.heap.size w w2 := (below_allocS hB _).trans (hb.mono (Nat.le_trans hB.size (by simp)))
  replace rx := (rx.alloc _).next hb
  replace ry := (ry.alloc _).next hb
  replace ro := (ro.alloc _).next hb
  replace ra := (ra.alloc _).next hb
  have rnx := (Row4.new w1 (notW x0) (notW x1) (notW x2) (notW x3)).next hb
  clear hb
  obtain ⟨z0, c0, c1, c2, c3⟩ := id ro
  go_wp2_with fail
  refine (zzcomplement_b _ _ _ _ ho _).mono ?_
  rintro e w3 ⟨rfl, hb⟩
  clear z0 c0 c1 c2 c3
  replace hB : Below w.heap.size w w3 := (below_allocS hB _).trans (hb.mono (Nat.le_trans hB.size (by simp)))
  replace rx := (rx.alloc _).next hb
  replace ry := (ry.alloc _).next hb
  replace ro := (ro.alloc _).next hb
  replace ra := (ra.alloc _).next hb
  replace rnx := (rnx.alloc _).next hb
  have rny := (Row4.new w2 (notW y0) (notW y1) (notW y2) (notW y3)).next hb
  clear hb
  obtain ⟨z0, c0, c1, c2, c3⟩ := id ra
  go_wp2_with fail
  refine (zzcomplement_b _ _ _ _ ha _).mono ?_
  rintro e w4 ⟨rfl, hb⟩
  clear z0 c0 c1 c2 c3
  replace hB : Below w.heap.size w w4 := (below_allocS hB _).trans (hb.mono (Nat.le_trans hB.size (by simp)))
  replace rx := (rx.alloc _).next hb
  replace ry := (ry.alloc _).next hb
  replace ro := (ro.alloc _).next hb
  replace ra := (ra.alloc _).next hb
  replace rnx := (rnx.alloc _).next hb
  replace rny := (rny.alloc _).next hb
  have rno := (Row4.new w3 (notW (bits .or .u64 x0 y0)) (notW (bits .or .u64 x1 y1)) (notW (bits .or .u64 x2 y2)) (notW (bits .or .u64 x3 y3))).next hb
  clear hb
  go_wp2_with fail
  replace hB := below_allocS hB (.cells #[.int .u64 (notW (bits .and .u64 x0 y0)), .int .u64 (notW (bits .and .u64 x1 y1)), .int .u64 (notW (bits .and .u64 x2 y2)), .int .u64 (notW (bits .and .u64 x3 y3))] 23)
  replace rx := rx.alloc (.cells #[.int .u64 (notW (bits .and .u64 x0 y0)), .int .u64 (notW (bits .and .u64 x1 y1)), .int .u64 (notW (bits .and .u64 x2 y2)), .int .u64 (notW (bits .and .u64 x3 y3))] 23)
  replace ry := ry.alloc (.cells #[.int .u64 (notW (bits .and .u64 x0 y0)), .int .u64 (notW (bits .and .u64 x1 y1)), .int .u64 (notW (bits .and .u64 x2 y2)), .int .u64 (notW (bits .and .u64 x3 y3))] 23)
  replace ro := ro.alloc (.cells #[.int .u64 (notW (bits .and .u64 x0 y0)), .int .u64 (notW (bits .and .u64 x1 y1)), .int .u64 (notW (bits .and .u64 x2 y2)), .int .u64 (notW (bits .and .u64 x3 y3))] 23)
  replace ra := ra.alloc (.cells #[.int .u64 (notW (bits .and .u64 x0 y0)), .int .u64 (notW (bits .and .u64 x1 y1)), .int .u64 (notW (bits .and .u64 x2 y2)), .int .u64 (notW (bits .and .u64 x3 y3))] 23)
  replace rnx := rnx.alloc (.cells #[.int .u64 (notW (bits .and .u64 x0 y0)), .int .u64 (notW (bits .and .u64 x1 y1)), .int .u64 (notW (bits .and .u64 x2 y2)), .int .u64 (notW (bits .and .u64 x3 y3))] 23)
  replace rny := rny.alloc (.cells #[.int .u64 (notW (bits .and .u64 x0 y0)), .int .u64 (notW (bits .and .u64 x1 y1)), .int .u64 (notW (bits .and .u64 x2 y2)), .int .u64 (notW (bits .and .u64 x3 y3))] 23)
  replace rno := rno.alloc (.cells #[.int .u64 (notW (bits .and .u64 x0 y0)), .int .u64 (notW (bits .and .u64 x1 y1)), .int .u64 (notW (bits .and .u64 x2 y2)), .int .u64 (notW (bits .and .u64 x3 y3))] 23)
  have rna := Row4.new w4 (notW (bits .and .u64 x0 y0)) (notW (bits .and .u64 x1 y1)) (notW (bits .and .u64 x2 y2)) (notW (bits .and .u64 x3 y3))
  go_loopw [12] (fun i wr => ∃ k : Nat, k ≤ 4 ∧ i = .int .i64 k ∧ Row4 wr w.heap.size x0 x1 x2 x3 ∧ Row4 wr (w.heap.size + 1) y0 y1 y2 y3 ∧ Row4 wr w1.heap.size (notW x0) (notW x1) (notW x2) (notW x3) ∧ Row4 wr w2.heap.size (notW y0) (notW y1) (notW y2) (notW y3) ∧ Row4 wr w3.heap.size (notW (bits .or .u64 x0 y0)) (notW (bits .or .u64 x1 y1)) (notW (bits .or .u64 x2 y2)) (notW (bits .or .u64 x3 y3)) ∧ Row4 wr w4.heap.size (notW (bits .and .u64 x0 y0)) (notW (bits .and .u64 x1 y1)) (notW (bits .and .u64 x2 y2)) (notW (bits .and .u64 x3 y3)) ∧ Below w.heap.size w wr) (fun i _ => 4 - (intOf i).toNat)
  case atStart => exact ⟨0, by omega, rfl, rx, ry, rnx, rny, rno, rna, hB⟩
  case round =>
    clear rx ry ro ra rnx rny rno rna hB
    obtain ⟨k, hk, rfl, rx, ry, rnx, rny, rno, rna, hB⟩ := hrel
    have hk5 : k = 0 ∨ k = 1 ∨ k = 2 ∨ k = 3 ∨ k = 4 := by omega
    rcases hk5 with rfl | rfl | rfl | rfl | rfl
    · obtain ⟨z0, a0, a1, a2, a3⟩ := id rnx
      obtain ⟨z1, b0, b1, b2, b3⟩ := id rny
      obtain ⟨z2, c0, c1, c2, c3⟩ := id rno
      obtain ⟨z3, d0, d1, d2, d3⟩ := id rna
      have n0 := N0.out
      have m0 := M0.out
      go_wp2
      go_quiet (fail)
      go_wp2
      have hd := below_drewN (Below.refl wr.heap.size wr) nq
      exact ⟨⟨1, by omega, rfl, rx.next hd, ry.next hd, rnx.next hd, rny.next hd, rno.next hd, rna.next hd, below_drewN hB nq⟩, by simp [intOf]⟩
    · obtain ⟨z0, a0, a1, a2, a3⟩ := id rnx
      obtain ⟨z1, b0, b1, b2, b3⟩ := id rny
      obtain ⟨z2, c0, c1, c2, c3⟩ := id rno
      obtain ⟨z3, d0, d1, d2, d3⟩ := id rna
      have n0 := N1.out
      have m0 := M1.out
      go_wp2
      go_quiet (fail)
      go_wp2
      have hd := below_drewN (Below.refl wr.heap.size wr) nq
      exact ⟨⟨2, by omega, rfl, rx.next hd, ry.next hd, rnx.next hd, rny.next hd, rno.next hd, rna.next hd, below_drewN hB nq⟩, by simp [intOf]⟩
    · obtain ⟨z0, a0, a1, a2, a3⟩ := id rnx
      obtain ⟨z1, b0, b1, b2, b3⟩ := id rny
      obtain ⟨z2, c0, c1, c2, c3⟩ := id rno
      obtain ⟨z3, d0, d1, d2, d3⟩ := id rna
      have n0 := N2.out
      have m0 := M2.out
      go_wp2
      go_quiet (fail)
      go_wp2
      have hd := below_drewN (Below.refl wr.heap.size wr) nq
      exact ⟨⟨3, by omega, rfl, rx.next hd, ry.next hd, rnx.next hd, rny.next hd, rno.next hd, rna.next hd, below_drewN hB nq⟩, by simp [intOf]⟩
    · obtain ⟨z0, a0, a1, a2, a3⟩ := id rnx
      obtain ⟨z1, b0, b1, b2, b3⟩ := id rny
      obtain ⟨z2, c0, c1, c2, c3⟩ := id rno
      obtain ⟨z3, d0, d1, d2, d3⟩ := id rna
      have n0 := N3.out
      have m0 := M3.out
      go_wp2
      go_quiet (fail)
      go_wp2
      have hd := below_drewN (Below.refl wr.heap.size wr) nq
      exact ⟨⟨4, by omega, rfl, rx.next hd, ry.next hd, rnx.next hd, rny.next hd, rno.next hd, rna.next hd, below_drewN hB nq⟩, by simp [intOf]⟩
    · obtain ⟨z0, a0, a1, a2, a3⟩ := id rnx
      obtain ⟨z1, b0, b1, b2, b3⟩ := id rny
      obtain ⟨z2, c0, c1, c2, c3⟩ := id rx
      obtain ⟨z3, d0, d1, d2, d3⟩ := id ry
      clear rnx rny rno rna rx ry
      go_wp2
      go_region_held3 (fun w' => w'.cell? ⟨w.heap.size, 0, none⟩ = some (.int .u64 x0) ∧ w'.cell? ⟨w.heap.size, 1, none⟩ = some (.int .u64 x1) ∧ w'.cell? ⟨w.heap.size, 2, none⟩ = some (.int .u64 x2) ∧ w'.cell? ⟨w.heap.size, 3, none⟩ = some (.int .u64 x3) ∧ w'.cell? ⟨w.heap.size + 1, 0, none⟩ = some (.int .u64 y0) ∧ w'.cell? ⟨w.heap.size + 1, 1, none⟩ = some (.int .u64 y1) ∧ w'.cell? ⟨w.heap.size + 1, 2, none⟩ = some (.int .u64 y2) ∧ w'.cell? ⟨w.heap.size + 1, 3, none⟩ = some (.int .u64 y3) ∧ w'.cell? ⟨w1.heap.size, 0, none⟩ = some (.int .u64 (notW x0)) ∧ w'.cell? ⟨w1.heap.size, 1, none⟩ = some (.int .u64 (notW x1)) ∧ w'.cell? ⟨w1.heap.size, 2, none⟩ = some (.int .u64 (notW x2)) ∧ w'.cell? ⟨w1.heap.size, 3, none⟩ = some (.int .u64 (notW x3)) ∧ w'.cell? ⟨w2.heap.size, 0, none⟩ = some (.int .u64 (notW y0)) ∧ w'.cell? ⟨w2.heap.size, 1, none⟩ = some (.int .u64 (notW y1)) ∧ w'.cell? ⟨w2.heap.size, 2, none⟩ = some (.int .u64 (notW y2)) ∧ w'.cell? ⟨w2.heap.size, 3, none⟩ = some (.int .u64 (notW y3))) (simp [*, go_sem])
        (first
          | (go_at_call_of 9 (Value.int IntKind.u64 x0); refine (C1.out _).mono ?_; rintro e w5 ⟨rfl, hb⟩; have hc1 := fun o => bcell hb _ o z2; have hc2 := fun o => bcell hb _ o z3; have hc3 := fun o => bcell hb _ o z0; have hc4 := fun o => bcell hb _ o z1; replace z0 := Nat.lt_of_lt_of_le z0 hb.size; replace z1 := Nat.lt_of_lt_of_le z1 hb.size; replace z2 := Nat.lt_of_lt_of_le z2 hb.size; replace z3 := Nat.lt_of_lt_of_le z3 hb.size; replace hB : Below w.heap.size w w5 := (by first | exact (Below.drew hB).trans (hb.mono hB.size) | exact hB.trans (hb.mono hB.size)))
          | (go_at_call_of 9 (Value.int IntKind.u64 (notW x0)); refine (C2.out _).mono ?_; rintro e w5 ⟨rfl, hb⟩; have hc1 := fun o => bcell hb _ o z2; have hc2 := fun o => bcell hb _ o z3; have hc3 := fun o => bcell hb _ o z0; have hc4 := fun o => bcell hb _ o z1; replace z0 := Nat.lt_of_lt_of_le z0 hb.size; replace z1 := Nat.lt_of_lt_of_le z1 hb.size; replace z2 := Nat.lt_of_lt_of_le z2 hb.size; replace z3 := Nat.lt_of_lt_of_le z3 hb.size; replace hB : Below w.heap.size w w5 := (by first | exact (Below.drew hB).trans (hb.mono hB.size) | exact hB.trans (hb.mono hB.size)))
          | (go_at_call_of 9 (Value.int IntKind.u64 y0); refine (C3.out _).mono ?_; rintro e w5 ⟨rfl, hb⟩; have hc1 := fun o => bcell hb _ o z2; have hc2 := fun o => bcell hb _ o z3; have hc3 := fun o => bcell hb _ o z0; have hc4 := fun o => bcell hb _ o z1; replace z0 := Nat.lt_of_lt_of_le z0 hb.size; replace z1 := Nat.lt_of_lt_of_le z1 hb.size; replace z2 := Nat.lt_of_lt_of_le z2 hb.size; replace z3 := Nat.lt_of_lt_of_le z3 hb.size; replace hB : Below w.heap.size w w5 := (by first | exact (Below.drew hB).trans (hb.mono hB.size) | exact hB.trans (hb.mono hB.size)))
          | (go_at_call_of 9 (Value.int IntKind.u64 (notW y0)); refine (C4.out _).mono ?_; rintro e w5 ⟨rfl, hb⟩; have hc1 := fun o => bcell hb _ o z2; have hc2 := fun o => bcell hb _ o z3; have hc3 := fun o => bcell hb _ o z0; have hc4 := fun o => bcell hb _ o z1; replace z0 := Nat.lt_of_lt_of_le z0 hb.size; replace z1 := Nat.lt_of_lt_of_le z1 hb.size; replace z2 := Nat.lt_of_lt_of_le z2 hb.size; replace z3 := Nat.lt_of_lt_of_le z3 hb.size; replace hB : Below w.heap.size w w5 := (by first | exact (Below.drew hB).trans (hb.mono hB.size) | exact hB.trans (hb.mono hB.size))))
      go_wp2
      go_ret
      exact ⟨rfl, hB⟩
end Go.Proofs.Qxb6617339a
