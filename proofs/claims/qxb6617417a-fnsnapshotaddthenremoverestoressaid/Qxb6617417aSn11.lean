import Derived.Test.Qxb6617417aSn10
namespace Go.Proofs.Qxb6617417a.Sn
open Go.RowKit Go.Deep Go.Maps

theorem make22z (w : World) : (Instr.makeSlice 22 (.int .i64 0) (.int .i64 0)).run Try.prog w = .ok (.slice (some ⟨w.heap.size, 0, none⟩) 0 0) (w.alloc (.cells (madeCells #[.int .u64 0] 0) 24)) :=
  run_make_row' (P := Try.prog) 22 24 (.int .u64 0) 8 Try.underlying22 info24 rfl .i64 .i64 0 (by omega) (by omega) w
theorem make23z (w : World) : (Instr.makeSlice 23 (.int .i64 0) (.int .i64 0)).run Try.prog w = .ok (.slice (some ⟨w.heap.size, 0, none⟩) 0 0) (w.alloc (.cells (madeCells #[.int .i64 0] 0) 3)) :=
  run_make_row' (P := Try.prog) 23 3 (.int .i64 0) 8 Try.underlying23 info3 rfl .i64 .i64 0 (by omega) (by omega) w
def zf : Nat → Int := fun _ => 0
theorem count_zero_any (a0 a1 : Option Addr) (c0 c1 : Nat) (ts : Int) (w : World) :
    Calls Try.prog 10 #[.slice a0 0 c0, .slice a1 0 c1, .int .u64 ts] w fun e w' =>
      ∃ g g' : Nat, e = .returned (.tuple #[.slice (some ⟨g, 0, none⟩) 1 1, .slice (some ⟨g', 0, none⟩) 1 1]) ∧ Below w.heap.size w w' ∧ Sl .u64 w' g 0 1 (upd zf 0 ts) ∧ Sl .i64 w' g' 0 1 (upd zf 0 1) :=
  (count_zero a0 a1 c0 c1 zf zf ts w).mono fun _ _ h => ⟨_, _, h⟩
theorem st_zero {w : World} {B : Nat} {o nw : Int} (h1 : w.rowIs (B + 1) 43 3 (lf B o nw)) (h2 : MapIs w B 0 0 (fun _ => none)) : St w B 0 0 o nw (fun _ => none) zf zf zf zf (fun _ => 0) :=
  ⟨h1, h2, fun i hi => by omega, fun i j hi _ _ => by omega⟩
theorem rep_first {w : World} {b m : Nat} {ts : Int} {f : Int → Option Nat} {O N : Nat → Int} {p : Nat → Nat} (hts : (Lit.int .u64 ts).wf = true) (h : St w b m 1 ts ts f (upd zf 0 ts) (upd zf 0 1) O N p) : Rep w (b + 1) 1 (upd zf 0 ts) (upd zf 0 1) :=
  h.rep (fun i hi => by obtain rfl : i = 0 := by omega
                        simpa [upd] using hts) (fun _ => ⟨by simp [upd], by simp [upd]⟩) (fun i h0 hi => by omega) (fun i hi => by omega)

set_option maxHeartbeats 4000000 in
set_option maxRecDepth 100000 in
theorem s3_zero (a0 a1 a2 a3 : Option Addr) (c0 c1 c2 c3 : Nat) (o nw ts : Int) (hts : (Lit.int .u64 ts).wf = true) (w : World) :
    Calls Try.prog 3 #[.slice a0 0 c0, .slice a1 0 c1, .slice a2 0 c2, .slice a3 0 c3, .int .u64 o, .int .u64 nw, .int .u64 ts] w fun e w' => e = .returned (.bool true) ∧ Below w.heap.size w w' := by
  have C := hide (bytes8_small a0 a1 a2 a3 0 0 0 0 c0 c1 c2 c3 o nw ts (by omega) (by omega) (by omega) (by omega))
  have D := hide (wf_zero a0 a1 a2 a3 c0 c1 c2 c3 o nw)
  have hm1 := make22z
  have hm2 := make23z
  have hq1 := fun w a n c => run_neq_slice_nil_any (P := Try.prog) w 22 24 a n c 0 0 Try.underlying22
  have hq2 := fun w a n c => run_neq_slice_nil_any (P := Try.prog) w 23 3 a n c 0 0 Try.underlying23
  have hc1 := copy_none (P := Try.prog) 22 24 3 Try.underlying22 size24
  have hc2 := copy_none (P := Try.prog) 23 3 3 Try.underlying23 size3
  cases a0 <;> cases a1 <;> cases a2 <;> cases a3
  all_goals
    go_enter Try.func3, Try.ntmps3
    go_wp2_with (first | (go_at_call 8; refine (C.out _).mono ?_; rintro e w' ⟨rfl, hw⟩; obtain rfl := hw.symm) | (go_at_call 9; refine (D.out _).mono ?_; rintro e w' ⟨rfl, hw⟩; obtain rfl := hw.symm))
    go_fit (count_zero_any _ _ _ _ ts _)
    rintro e w6 ⟨g, g', rfl, hB6, hk6, hr6⟩
    replace hB6 : Below w.heap.size w w6 := below_transS (by repeat (first | exact Below.refl _ _ | refine below_allocS ?_ _)) hB6
    replace hk6 := hide hk6
    replace hr6 := hide hr6
    replace hB6 := hide hB6
    go_wp2_with (fail)
    go_fit (make_zero _ _ _ _ _ _ _ _ o nw w6)
    rintro e w7 ⟨rfl, hB7, l7, m7⟩
    replace hB7 := hide hB7
    have S7 := hide (st_zero l7 m7)
    clear l7 m7
    go_wp2_with (fail)
    go_fit (zzadd_of (add_first w6.heap.size 0 o nw ts _ _ _ _ _ _ (by omega) hts rfl w7 S7.out))
    rintro e w8 ⟨rfl, hB8, hS8⟩
    replace hB8 := hide (hB7.out.trans hB8)
    replace hS8 := hide hS8
    have HR8 := hide (rep_first hts hS8.out)
    go_wp2_with (fail)
    go_fit (rep_yes (w6.heap.size + 1) 1 g 0 1 g' 0 1 _ _ (by omega) (by omega) w8 HR8.out (hk6.out.next hB8.out) (hr6.out.next hB8.out))
    rintro e w9 ⟨rfl, hB9⟩
    go_wp2
    go_ret
    exact ⟨rfl, below_transS (below_transS hB6.out hB8.out) hB9⟩

end Go.Proofs.Qxb6617417a.Sn
