import Derived.Test.Qxb6617417aSn9
namespace Go.Proofs.Qxb6617417a.Sn
open Go.RowKit Go.Deep Go.Maps

/-- A slice longer than 2^15: nothing is asked. -/
theorem s3_long (a0 a1 a2 a3 : Option Addr) (n0 n1 n2 n3 c0 c1 c2 c3 : Nat) (x y z : Int) (h0 : n0 ≤ maxLen) (h1 : n1 ≤ maxLen) (h2 : n2 ≤ maxLen) (h3 : n3 ≤ maxLen) (h : 32768 < n0 ∨ 32768 < n1 ∨ 32768 < n2 ∨ 32768 < n3) (w : World) :
    Calls Try.prog 3 #[.slice a0 n0 c0, .slice a1 n1 c1, .slice a2 n2 c2, .slice a3 n3 c3, .int .u64 x, .int .u64 y, .int .u64 z] w fun e w' => e = .returned (.bool true) ∧ Below w.heap.size w w' := by
  have C := hide (bytes8_any a0 a1 a2 a3 n0 n1 n2 n3 c0 c1 c2 c3 x y z h0 h1 h2 h3)
  unfold maxLen at h0 h1 h2 h3
  by_cases e1 : 32768 < n0
  · go_enter Try.func3, Try.ntmps3
    go_wp2_with (go_at_call 8; refine (C.out _).mono ?_; rintro e w' ⟨rfl | rfl, hw⟩ <;> obtain rfl := hw.symm)
    all_goals (go_ret; exact ⟨rfl, Below.refl _ _⟩)
  by_cases e2 : 32768 < n1
  · go_enter Try.func3, Try.ntmps3
    go_wp2_with (go_at_call 8; refine (C.out _).mono ?_; rintro e w' ⟨rfl | rfl, hw⟩ <;> obtain rfl := hw.symm)
    all_goals (go_ret; exact ⟨rfl, Below.refl _ _⟩)
  by_cases e3 : 32768 < n2
  · go_enter Try.func3, Try.ntmps3
    go_wp2_with (go_at_call 8; refine (C.out _).mono ?_; rintro e w' ⟨rfl | rfl, hw⟩ <;> obtain rfl := hw.symm)
    all_goals (go_ret; exact ⟨rfl, Below.refl _ _⟩)
  have e4 : 32768 < n3 := by omega
  go_enter Try.func3, Try.ntmps3
  go_wp2_with (go_at_call 8; refine (C.out _).mono ?_; rintro e w' ⟨rfl | rfl, hw⟩ <;> obtain rfl := hw.symm)
  all_goals (go_ret; exact ⟨rfl, Below.refl _ _⟩)

/-- Lengths that differ: the list is not well formed. -/
theorem s3_mis (a0 a1 a2 a3 : Option Addr) (n0 n1 n2 n3 c0 c1 c2 c3 : Nat) (x y z : Int) (h0 : n0 ≤ 32768) (h1 : n1 ≤ 32768) (h2 : n2 ≤ 32768) (h3 : n3 ≤ 32768) (h : n1 ≠ n0 ∨ n2 ≠ n0 ∨ n3 ≠ n0) (w : World) :
    Calls Try.prog 3 #[.slice a0 n0 c0, .slice a1 n1 c1, .slice a2 n2 c2, .slice a3 n3 c3, .int .u64 x, .int .u64 y, .int .u64 z] w fun e w' => e = .returned (.bool true) ∧ Below w.heap.size w w' := by
  have C := hide (bytes8_small a0 a1 a2 a3 n0 n1 n2 n3 c0 c1 c2 c3 x y z h0 h1 h2 h3)
  have D := hide (wf_mis a0 a1 a2 a3 n0 n1 n2 n3 c0 c1 c2 c3 x y h0 h1 h2 h3 h)
  clear h
  go_enter Try.func3, Try.ntmps3
  go_wp2_with (first | (go_at_call 8; refine (C.out _).mono ?_; rintro e w' ⟨rfl, hw⟩; obtain rfl := hw.symm) | (go_at_call 9; refine (D.out _).mono ?_; rintro e w' ⟨rfl, hw⟩; obtain rfl := hw.symm))
  go_ret
  exact ⟨rfl, Below.refl _ _⟩

set_option maxHeartbeats 2000000 in
set_option maxRecDepth 100000 in
theorem s3_lt (gk ok gr orr go oo gn on n c0 c1 c2 c3 : Nat) (K R O N : Nat → Int) (o nw ts : Int) (hn1 : 1 ≤ n) (hn : n ≤ 32768) (w : World)
    (hk : Sl .u64 w gk ok n K) (hr : Sl .i64 w gr orr n R) (ho : Sl .u64 w go oo n O) (hw : Sl .u64 w gn on n N) (hlt : ts < K (n - 1)) :
    Calls Try.prog 3 #[.slice (some ⟨gk, ok, none⟩) n c0, .slice (some ⟨gr, orr, none⟩) n c1, .slice (some ⟨go, oo, none⟩) n c2, .slice (some ⟨gn, on, none⟩) n c3, .int .u64 o, .int .u64 nw, .int .u64 (ts)] w fun e w' => e = .returned (.bool true) ∧ Below w.heap.size w w' := by
  have C := hide (bytes8_small (some ⟨gk, ok, none⟩) (some ⟨gr, orr, none⟩) (some ⟨go, oo, none⟩) (some ⟨gn, on, none⟩) n n n n c0 c1 c2 c3 o nw (ts) hn hn hn hn)
  have D := hide (wf_loop gk ok gr orr go oo gn on n c0 c1 c2 c3 K R O N o nw hn1 hn w hk hr ho hw)
  have HK := hide hk
  have HR := hide hr
  have HO := hide ho
  have HN := hide hw
  clear hk hr ho hw
  have hm1 := run_make_row' (P := Try.prog) 22 24 (.int .u64 0) 8 Try.underlying22 info24 rfl .i64 .i64 n (by omega) (by omega)
  have hm2 := run_make_row' (P := Try.prog) 23 3 (.int .i64 0) 8 Try.underlying23 info3 rfl .i64 .i64 n (by omega) (by omega)
  have hq1 := fun w a n c => run_neq_slice_nil_any (P := Try.prog) w 22 24 a n c 0 0 Try.underlying22
  have hq2 := fun w a n c => run_neq_slice_nil_any (P := Try.prog) w 23 3 a n c 0 0 Try.underlying23
  go_enter Try.func3, Try.ntmps3
  go_wp2_with (go_at_call 8; refine (C.out _).mono ?_; rintro e w' ⟨rfl, hw⟩; obtain rfl := hw.symm)
  go_fit D.out
  rintro e w1 ⟨bb, rfl, hB1, hbb⟩
  have HB := hide hbb
  clear hbb
  cases bb
  · go_wp2
    go_ret
    exact ⟨rfl, hB1⟩
  have HWF := hide (HB.out rfl)
  clear HB
  obtain ⟨w2, r2, hk2, hB2⟩ := copy_run (P := Try.prog) 22 24 3 Try.underlying22 size24 .u64 gk ok n c0 K (.int .u64 0) 24 w1 (HK.out.next hB1)
  obtain ⟨w3, r3, hr3, hB3⟩ := copy_run (P := Try.prog) 23 3 3 Try.underlying23 size3 .i64 gr orr n c1 R (.int .i64 0) 3 w2 ((HR.out.next hB1).next hB2)
  obtain ⟨w4, r4, ho4, hB4⟩ := copy_run (P := Try.prog) 22 24 3 Try.underlying22 size24 .u64 go oo n c2 O (.int .u64 0) 24 w3 (((HO.out.next hB1).next hB2).next hB3)
  obtain ⟨w5, r5, hn5, hB5⟩ := copy_run (P := Try.prog) 22 24 3 Try.underlying22 size24 .u64 gn on n c3 N (.int .u64 0) 24 w4 ((((HN.out.next hB1).next hB2).next hB3).next hB4)
  replace hk2 := hide (((hk2.next hB3).next hB4).next hB5)
  replace hr3 := hide ((hr3.next hB4).next hB5)
  replace ho4 := hide (ho4.next hB5)
  replace hn5 := hide hn5
  have HB5 := hide (below_transS (below_transS (below_transS (below_transS hB1 hB2) hB3) hB4) hB5)
  have x0 := hk2.out.2 (n - 1) (by omega)
  have x1 := hr3.out.2 (n - 1) (by omega)
  rw [Nat.zero_add] at x0 x1
  have q1 : (0 < (n : Int)) := by omega
  clear hB2 hB3 hB4 hB5 HK HR HO HN
  clear x1
  go_wp2
  go_ret
  exact ⟨rfl, HB5.out⟩

set_option maxHeartbeats 2000000 in
set_option maxRecDepth 100000 in
theorem s3_max (gk ok gr orr go oo gn on n c0 c1 c2 c3 : Nat) (K R O N : Nat → Int) (o nw : Int) (hn1 : 1 ≤ n) (hn : n ≤ 32768) (w : World)
    (hk : Sl .u64 w gk ok n K) (hr : Sl .i64 w gr orr n R) (ho : Sl .u64 w go oo n O) (hw : Sl .u64 w gn on n N) (hmax : R (n - 1) = 9223372036854775807) :
    Calls Try.prog 3 #[.slice (some ⟨gk, ok, none⟩) n c0, .slice (some ⟨gr, orr, none⟩) n c1, .slice (some ⟨go, oo, none⟩) n c2, .slice (some ⟨gn, on, none⟩) n c3, .int .u64 o, .int .u64 nw, .int .u64 (K (n - 1))] w fun e w' => e = .returned (.bool true) ∧ Below w.heap.size w w' := by
  have C := hide (bytes8_small (some ⟨gk, ok, none⟩) (some ⟨gr, orr, none⟩) (some ⟨go, oo, none⟩) (some ⟨gn, on, none⟩) n n n n c0 c1 c2 c3 o nw (K (n - 1)) hn hn hn hn)
  have D := hide (wf_loop gk ok gr orr go oo gn on n c0 c1 c2 c3 K R O N o nw hn1 hn w hk hr ho hw)
  have HK := hide hk
  have HR := hide hr
  have HO := hide ho
  have HN := hide hw
  clear hk hr ho hw
  have hm1 := run_make_row' (P := Try.prog) 22 24 (.int .u64 0) 8 Try.underlying22 info24 rfl .i64 .i64 n (by omega) (by omega)
  have hm2 := run_make_row' (P := Try.prog) 23 3 (.int .i64 0) 8 Try.underlying23 info3 rfl .i64 .i64 n (by omega) (by omega)
  have hq1 := fun w a n c => run_neq_slice_nil_any (P := Try.prog) w 22 24 a n c 0 0 Try.underlying22
  have hq2 := fun w a n c => run_neq_slice_nil_any (P := Try.prog) w 23 3 a n c 0 0 Try.underlying23
  go_enter Try.func3, Try.ntmps3
  go_wp2_with (go_at_call 8; refine (C.out _).mono ?_; rintro e w' ⟨rfl, hw⟩; obtain rfl := hw.symm)
  go_fit D.out
  rintro e w1 ⟨bb, rfl, hB1, hbb⟩
  have HB := hide hbb
  clear hbb
  cases bb
  · go_wp2
    go_ret
    exact ⟨rfl, hB1⟩
  have HWF := hide (HB.out rfl)
  clear HB
  obtain ⟨w2, r2, hk2, hB2⟩ := copy_run (P := Try.prog) 22 24 3 Try.underlying22 size24 .u64 gk ok n c0 K (.int .u64 0) 24 w1 (HK.out.next hB1)
  obtain ⟨w3, r3, hr3, hB3⟩ := copy_run (P := Try.prog) 23 3 3 Try.underlying23 size3 .i64 gr orr n c1 R (.int .i64 0) 3 w2 ((HR.out.next hB1).next hB2)
  obtain ⟨w4, r4, ho4, hB4⟩ := copy_run (P := Try.prog) 22 24 3 Try.underlying22 size24 .u64 go oo n c2 O (.int .u64 0) 24 w3 (((HO.out.next hB1).next hB2).next hB3)
  obtain ⟨w5, r5, hn5, hB5⟩ := copy_run (P := Try.prog) 22 24 3 Try.underlying22 size24 .u64 gn on n c3 N (.int .u64 0) 24 w4 ((((HN.out.next hB1).next hB2).next hB3).next hB4)
  replace hk2 := hide (((hk2.next hB3).next hB4).next hB5)
  replace hr3 := hide ((hr3.next hB4).next hB5)
  replace ho4 := hide (ho4.next hB5)
  replace hn5 := hide hn5
  have HB5 := hide (below_transS (below_transS (below_transS (below_transS hB1 hB2) hB3) hB4) hB5)
  have x0 := hk2.out.2 (n - 1) (by omega)
  have x1 := hr3.out.2 (n - 1) (by omega)
  rw [Nat.zero_add] at x0 x1
  have q1 : (0 < (n : Int)) := by omega
  clear hB2 hB3 hB4 hB5 HK HR HO HN
  rw [hmax] at x1
  go_wp2
  go_ret
  exact ⟨rfl, HB5.out⟩

set_option maxHeartbeats 2000000 in
set_option maxRecDepth 100000 in
theorem s3_hit (gk ok gr orr go oo gn on n c0 c1 c2 c3 : Nat) (K R O N : Nat → Int) (o nw : Int) (hn1 : 1 ≤ n) (hn : n ≤ 32768) (w : World)
    (hk : Sl .u64 w gk ok n K) (hr : Sl .i64 w gr orr n R) (ho : Sl .u64 w go oo n O) (hw : Sl .u64 w gn on n N) (hwf : ∀ i, i < n → (Lit.int .u64 (K i)).wf = true) (hmax : R (n - 1) < 9223372036854775807) :
    Calls Try.prog 3 #[.slice (some ⟨gk, ok, none⟩) n c0, .slice (some ⟨gr, orr, none⟩) n c1, .slice (some ⟨go, oo, none⟩) n c2, .slice (some ⟨gn, on, none⟩) n c3, .int .u64 o, .int .u64 nw, .int .u64 (K (n - 1))] w fun e w' => e = .returned (.bool true) ∧ Below w.heap.size w w' := by
  have C := hide (bytes8_small (some ⟨gk, ok, none⟩) (some ⟨gr, orr, none⟩) (some ⟨go, oo, none⟩) (some ⟨gn, on, none⟩) n n n n c0 c1 c2 c3 o nw (K (n - 1)) hn hn hn hn)
  have D := hide (wf_loop gk ok gr orr go oo gn on n c0 c1 c2 c3 K R O N o nw hn1 hn w hk hr ho hw)
  have HK := hide hk
  have HR := hide hr
  have HO := hide ho
  have HN := hide hw
  clear hk hr ho hw
  have hm1 := run_make_row' (P := Try.prog) 22 24 (.int .u64 0) 8 Try.underlying22 info24 rfl .i64 .i64 n (by omega) (by omega)
  have hm2 := run_make_row' (P := Try.prog) 23 3 (.int .i64 0) 8 Try.underlying23 info3 rfl .i64 .i64 n (by omega) (by omega)
  have hq1 := fun w a n c => run_neq_slice_nil_any (P := Try.prog) w 22 24 a n c 0 0 Try.underlying22
  have hq2 := fun w a n c => run_neq_slice_nil_any (P := Try.prog) w 23 3 a n c 0 0 Try.underlying23
  go_enter Try.func3, Try.ntmps3
  go_wp2_with (go_at_call 8; refine (C.out _).mono ?_; rintro e w' ⟨rfl, hw⟩; obtain rfl := hw.symm)
  go_fit D.out
  rintro e w1 ⟨bb, rfl, hB1, hbb⟩
  have HB := hide hbb
  clear hbb
  cases bb
  · go_wp2
    go_ret
    exact ⟨rfl, hB1⟩
  have HWF := hide (HB.out rfl)
  clear HB
  obtain ⟨w2, r2, hk2, hB2⟩ := copy_run (P := Try.prog) 22 24 3 Try.underlying22 size24 .u64 gk ok n c0 K (.int .u64 0) 24 w1 (HK.out.next hB1)
  obtain ⟨w3, r3, hr3, hB3⟩ := copy_run (P := Try.prog) 23 3 3 Try.underlying23 size3 .i64 gr orr n c1 R (.int .i64 0) 3 w2 ((HR.out.next hB1).next hB2)
  obtain ⟨w4, r4, ho4, hB4⟩ := copy_run (P := Try.prog) 22 24 3 Try.underlying22 size24 .u64 go oo n c2 O (.int .u64 0) 24 w3 (((HO.out.next hB1).next hB2).next hB3)
  obtain ⟨w5, r5, hn5, hB5⟩ := copy_run (P := Try.prog) 22 24 3 Try.underlying22 size24 .u64 gn on n c3 N (.int .u64 0) 24 w4 ((((HN.out.next hB1).next hB2).next hB3).next hB4)
  replace hk2 := hide (((hk2.next hB3).next hB4).next hB5)
  replace hr3 := hide ((hr3.next hB4).next hB5)
  replace ho4 := hide (ho4.next hB5)
  replace hn5 := hide hn5
  have HB5 := hide (below_transS (below_transS (below_transS (below_transS hB1 hB2) hB3) hB4) hB5)
  have x0 := hk2.out.2 (n - 1) (by omega)
  have x1 := hr3.out.2 (n - 1) (by omega)
  rw [Nat.zero_add] at x0 x1
  have q1 : (0 < (n : Int)) := by omega
  clear hB2 hB3 hB4 hB5 HK HR HO HN
  have q2 : (R (n - 1) == 9223372036854775807) = false := by rw [beq_eq_false_iff_ne]; omega
  obtain ⟨hWF, ho0, hnw⟩ := HWF.out
  subst ho0 hnw
  have r0 := (hWF (n - 1) (by omega)).1
  have HW := hide hWF
  clear hWF
  go_wp2_with (fail)
  go_fit (count_hit w1.heap.size 0 w2.heap.size 0 n n n K R hn1 hn (fun i hi => wfk_lt HW.out (n - 1) (by omega) i hi) r0 hmax w5 hk2.out hr3.out)
  rintro e w6 ⟨rfl, hB6, hk6, hr6⟩
  replace hk6 := hide hk6
  replace hr6 := hide hr6
  have HB6 := hide hB6
  clear hB6
  go_wp2_with (fail)
  go_fit (make_any w1.heap.size 0 w2.heap.size 0 w3.heap.size 0 w4.heap.size 0 n n n n n K R O N (K 0) (K (n - 1)) hn1 hn (wfk_inj HW.out) hwf w6 (hk2.out.next HB6.out) (hr3.out.next HB6.out) (ho4.out.next HB6.out) (hn5.out.next HB6.out))
  rintro e w7 ⟨rfl, hB7, l7, m7, e7⟩
  have S7 := hide (st_made (wfk_inj HW.out) l7 m7 e7)
  have HB7 := hide hB7
  clear hB7 l7 m7 e7
  go_wp2_with (fail)
  go_fit (zzadd_of (add_hit w6.heap.size n n (n - 1) (K 0) (K (n - 1)) _ K R O N _ (by omega) (hwf (n - 1) (by omega)) r0 hmax w7 S7.out))
  rintro e w8 ⟨rfl, hB8, hS8⟩
  have HB8 := hide (HB7.out.trans hB8)
  have HS8 := hide hS8
  clear hB8 hS8
  have HR8 := hide (HS8.out.rep hwf (fun _ => ⟨rfl, rfl⟩) (fun i h0 hi => ((HW.out i hi).2.1 h0).2) (fun i hi => (HW.out i (by omega)).2.2 hi))
  go_wp2_with (fail)
  go_fit (rep_yes (w6.heap.size + 1) n w5.heap.size 0 (n + 1) (w5.heap.size + 1) 0 (n + 1) K _ hn1 (by omega) w8 HR8.out (hk6.out.next HB8.out) (hr6.out.next HB8.out))
  rintro e w9 ⟨rfl, hB9⟩
  go_wp2
  go_ret
  exact ⟨rfl, below_transS (below_transS (below_transS HB5.out HB6.out) HB8.out) hB9⟩

set_option maxHeartbeats 2000000 in
set_option maxRecDepth 100000 in
theorem s3_new (gk ok gr orr go oo gn on n c0 c1 c2 c3 : Nat) (K R O N : Nat → Int) (o nw ts : Int) (hn1 : 1 ≤ n) (hn : n ≤ 32768) (w : World)
    (hk : Sl .u64 w gk ok n K) (hr : Sl .i64 w gr orr n R) (ho : Sl .u64 w go oo n O) (hw : Sl .u64 w gn on n N) (hwf : ∀ i, i < n → (Lit.int .u64 (K i)).wf = true) (hts : (Lit.int .u64 ts).wf = true) (hgt : K (n - 1) < ts) :
    Calls Try.prog 3 #[.slice (some ⟨gk, ok, none⟩) n c0, .slice (some ⟨gr, orr, none⟩) n c1, .slice (some ⟨go, oo, none⟩) n c2, .slice (some ⟨gn, on, none⟩) n c3, .int .u64 o, .int .u64 nw, .int .u64 (ts)] w fun e w' => e = .returned (.bool true) ∧ Below w.heap.size w w' := by
  have C := hide (bytes8_small (some ⟨gk, ok, none⟩) (some ⟨gr, orr, none⟩) (some ⟨go, oo, none⟩) (some ⟨gn, on, none⟩) n n n n c0 c1 c2 c3 o nw (ts) hn hn hn hn)
  have D := hide (wf_loop gk ok gr orr go oo gn on n c0 c1 c2 c3 K R O N o nw hn1 hn w hk hr ho hw)
  have HK := hide hk
  have HR := hide hr
  have HO := hide ho
  have HN := hide hw
  clear hk hr ho hw
  have hm1 := run_make_row' (P := Try.prog) 22 24 (.int .u64 0) 8 Try.underlying22 info24 rfl .i64 .i64 n (by omega) (by omega)
  have hm2 := run_make_row' (P := Try.prog) 23 3 (.int .i64 0) 8 Try.underlying23 info3 rfl .i64 .i64 n (by omega) (by omega)
  have hq1 := fun w a n c => run_neq_slice_nil_any (P := Try.prog) w 22 24 a n c 0 0 Try.underlying22
  have hq2 := fun w a n c => run_neq_slice_nil_any (P := Try.prog) w 23 3 a n c 0 0 Try.underlying23
  go_enter Try.func3, Try.ntmps3
  go_wp2_with (go_at_call 8; refine (C.out _).mono ?_; rintro e w' ⟨rfl, hw⟩; obtain rfl := hw.symm)
  go_fit D.out
  rintro e w1 ⟨bb, rfl, hB1, hbb⟩
  have HB := hide hbb
  clear hbb
  cases bb
  · go_wp2
    go_ret
    exact ⟨rfl, hB1⟩
  have HWF := hide (HB.out rfl)
  clear HB
  obtain ⟨w2, r2, hk2, hB2⟩ := copy_run (P := Try.prog) 22 24 3 Try.underlying22 size24 .u64 gk ok n c0 K (.int .u64 0) 24 w1 (HK.out.next hB1)
  obtain ⟨w3, r3, hr3, hB3⟩ := copy_run (P := Try.prog) 23 3 3 Try.underlying23 size3 .i64 gr orr n c1 R (.int .i64 0) 3 w2 ((HR.out.next hB1).next hB2)
  obtain ⟨w4, r4, ho4, hB4⟩ := copy_run (P := Try.prog) 22 24 3 Try.underlying22 size24 .u64 go oo n c2 O (.int .u64 0) 24 w3 (((HO.out.next hB1).next hB2).next hB3)
  obtain ⟨w5, r5, hn5, hB5⟩ := copy_run (P := Try.prog) 22 24 3 Try.underlying22 size24 .u64 gn on n c3 N (.int .u64 0) 24 w4 ((((HN.out.next hB1).next hB2).next hB3).next hB4)
  replace hk2 := hide (((hk2.next hB3).next hB4).next hB5)
  replace hr3 := hide ((hr3.next hB4).next hB5)
  replace ho4 := hide (ho4.next hB5)
  replace hn5 := hide hn5
  have HB5 := hide (below_transS (below_transS (below_transS (below_transS hB1 hB2) hB3) hB4) hB5)
  have x0 := hk2.out.2 (n - 1) (by omega)
  have x1 := hr3.out.2 (n - 1) (by omega)
  rw [Nat.zero_add] at x0 x1
  have q1 : (0 < (n : Int)) := by omega
  clear hB2 hB3 hB4 hB5 HK HR HO HN
  have q2 : (ts == K (n - 1)) = false := by rw [beq_eq_false_iff_ne]; omega
  obtain ⟨hWF, ho0, hnw⟩ := HWF.out
  have HW := hide hWF
  clear hWF
  have HLT := hide (show ∀ i, i < n → K i < ts from fun i hi => by
    by_cases e : i = n - 1
    · subst e; exact hgt
    · exact Int.lt_trans (wfk_lt HW.out (n - 1) (by omega) i (by omega)) hgt)
  have hwf2 := hide (show ∀ i, i < n + 1 → (Lit.int .u64 (upd K n ts i)).wf = true from fun i hi => by
    by_cases e : i = n
    · subst e; simpa [upd] using hts
    · simp only [upd, if_neg e]; exact hwf i (by omega))
  subst ho0 hnw
  go_wp2_with (fail)
  go_fit (count_new w1.heap.size 0 w2.heap.size 0 n n n K R ts hn1 hn HLT.out w5 hk2.out hr3.out)
  rintro e w6 ⟨rfl, hB6, hk6, hr6⟩
  replace hk6 := hide hk6
  replace hr6 := hide hr6
  have HB6 := hide hB6
  clear hB6
  go_wp2_with (fail)
  go_fit (make_any w1.heap.size 0 w2.heap.size 0 w3.heap.size 0 w4.heap.size 0 n n n n n K R O N (K 0) (K (n - 1)) hn1 hn (wfk_inj HW.out) hwf w6 (hk2.out.next HB6.out) (hr3.out.next HB6.out) (ho4.out.next HB6.out) (hn5.out.next HB6.out))
  rintro e w7 ⟨rfl, hB7, l7, m7, e7⟩
  have S7 := hide (st_made (wfk_inj HW.out) l7 m7 e7)
  have HB7 := hide hB7
  clear hB7 l7 m7 e7
  go_wp2_with (fail)
  go_fit (zzadd_of (add_new w6.heap.size n n (K 0) ts _ K R O N _ hn1 hn hn (hwf (n - 1) (by omega)) hts (fm_none K _ ts n (fun i hi => by have := HLT.out i hi; omega)) w7 S7.out))
  rintro e w8 ⟨rfl, hB8, hS8⟩
  have HB8 := hide (HB7.out.trans hB8)
  have HS8 := hide hS8
  clear hB8 hS8
  have HR8 := hide (HS8.out.rep hwf2.out (fun _ => ⟨by simp only [upd, if_neg (show ¬ 0 = n by omega)], by simp [upd]⟩)
    (fun i h0 hi => by
      by_cases e : i = n
      · subst e; simp only [upd, if_true, if_neg (show ¬ i - 1 = i by omega)]
      · simp only [upd, if_neg e, if_neg (show ¬ i - 1 = n by omega)]; exact ((HW.out i (by omega)).2.1 h0).2)
    (fun i hi => by
      by_cases e : i + 1 = n
      · subst e; simp [upd]
      · simp only [upd, if_neg (show ¬ i = n by omega), if_neg (show ¬ i = n - 1 by omega), if_neg e]; exact (HW.out i (by omega)).2.2 (by omega)))
  go_wp2_with (fail)
  go_fit (rep_yes (w6.heap.size + 1) (n + 1) w5.heap.size 0 (n + 1) (w5.heap.size + 1) 0 (n + 1) _ _ (by omega) (by omega) w8 HR8.out (hk6.out.next HB8.out) (hr6.out.next HB8.out))
  rintro e w9 ⟨rfl, hB9⟩
  go_wp2
  go_ret
  exact ⟨rfl, below_transS (below_transS (below_transS HB5.out HB6.out) HB8.out) hB9⟩

end Go.Proofs.Qxb6617417a.Sn
