import Derived.Test.Qxb6617417aSn14
namespace Go.Proofs.Qxb6617417a.Sn
open Go.RowKit Go.Deep Go.Maps

theorem rep_none {w : World} {b m : Nat} {o nw : Int} {f : Int → Option Nat} {K R O N : Nat → Int} {p : Nat → Nat} (h : St w b m 0 o nw f K R O N p) : Rep w (b + 1) 0 zf zf :=
  ⟨b, m, o, nw, f, p, O, N, h.1, h.2.1, fun i hi => by omega, fun h0 => by omega, fun i _ hi => by omega, fun i hi => by omega⟩

set_option maxHeartbeats 4000000 in
set_option maxRecDepth 100000 in
theorem s5_zero (a0 a1 a2 a3 : Option Addr) (c0 c1 c2 c3 : Nat) (o nw ts : Int) (hts : (Lit.int .u64 ts).wf = true) (w : World) :
    Calls Try.prog 5 #[.slice a0 0 c0, .slice a1 0 c1, .slice a2 0 c2, .slice a3 0 c3, .int .u64 o, .int .u64 nw, .int .u64 ts] w fun e w' => e = .returned (.bool true) ∧ Below w.heap.size w w' := by
  have C := hide (bytes18_small a0 a1 a2 a3 0 0 0 0 c0 c1 c2 c3 o nw ts (by omega) (by omega) (by omega) (by omega))
  have D := hide (wf_zero a0 a1 a2 a3 c0 c1 c2 c3 o nw)
  have hm1 := make22z
  have hm2 := make23z
  have hq1 := fun w a n c => run_neq_slice_nil_any (P := Try.prog) w 22 24 a n c 0 0 Try.underlying22
  have hq2 := fun w a n c => run_neq_slice_nil_any (P := Try.prog) w 23 3 a n c 0 0 Try.underlying23
  have hc1 := copy_none (P := Try.prog) 22 24 3 Try.underlying22 size24
  have hc2 := copy_none (P := Try.prog) 23 3 3 Try.underlying23 size3
  cases a0 <;> cases a1 <;> cases a2 <;> cases a3
  all_goals
    go_enter Try.func5, Try.ntmps5
    go_wp2_with (first | (go_at_call 18; refine (C.out _).mono ?_; rintro e w' ⟨rfl, hw⟩; obtain rfl := hw.symm) | (go_at_call 9; refine (D.out _).mono ?_; rintro e w' ⟨rfl, hw⟩; obtain rfl := hw.symm))
    go_fit (count_zero_any _ _ _ _ ts _)
    rintro e w6 ⟨g, g', rfl, hB6, hk6, hr6⟩
    replace hB6 : Below w.heap.size w w6 := below_transS (by repeat (first | exact Below.refl _ _ | refine below_allocS ?_ _)) hB6
    replace hk6 := hide hk6
    replace hr6 := hide hr6
    replace hB6 := hide hB6
    go_wp2_with (fail)
    go_fit (make_zero _ _ _ _ _ _ _ _ o nw w6)
    rintro e w7 ⟨rfl, hB7, l7, m7⟩
    replace hB7 := hide hB7
    have S7 := hide (st_zero l7 m7)
    clear l7 m7
    go_wp2_with (fail)
    go_fit (zzadd_of (add_first w6.heap.size 0 o nw ts _ _ _ _ _ _ (by omega) hts rfl w7 S7.out))
    rintro e w8 ⟨rfl, hB8, hS8⟩
    replace hB8 := hide (hB7.out.trans hB8)
    replace hS8 := hide hS8
    have HR8 := hide (rep_first hts hS8.out)
    go_wp2_with (fail)
    go_fit (rep_yes (w6.heap.size + 1) 1 g 0 1 g' 0 1 _ _ (by omega) (by omega) w8 HR8.out (hk6.out.next hB8.out) (hr6.out.next hB8.out))
    rintro e w9 ⟨rfl, hB9⟩
    have HS9 := hide (hS8.out.next hB9)
    replace hB9 := hide (below_transS hB8.out hB9)
    go_wp2_with (fail)
    go_fit (zzremove_of (rem_only w6.heap.size 1 ts ts ts _ _ _ _ _ _ (by simp [upd]) hts (by simp [upd]) w9 HS9.out))
    rintro e w10 ⟨rfl, hB10, hS10⟩
    replace hB10 := hide (hB9.out.trans hB10)
    replace hS10 := hide (rep_none hS10)
    go_wp2_with (fail)
    go_fit (rep_zero (w6.heap.size + 1) _ _ _ _ zf zf w10 hS10.out)
    rintro e w11 ⟨rfl, hB11⟩
    go_wp2
    go_ret
    exact ⟨rfl, below_transS (below_transS hB6.out hB10.out) hB11⟩


theorem s5_any (a0 : Option Addr) (len0 cap0 : Nat) (z0 : List Int) (a1 : Option Addr) (len1 cap1 : Nat) (z1 : List Int) (a2 : Option Addr) (len2 cap2 : Nat) (z2 : List Int) (a3 : Option Addr) (len3 cap3 : Nat) (z3 : List Int) (a4 a5 a6 : Int) (w : World)
    (w0 : IsRow .u64 w a0 len0 cap0 z0) (w1 : IsRow .i64 w a1 len1 cap1 z1) (w2 : IsRow .u64 w a2 len2 cap2 z2) (w3 : IsRow .u64 w a3 len3 cap3 z3) (w6 : (Lit.int .u64 a6).wf = true) :
    Calls Try.prog 5 #[.slice a0 len0 cap0, .slice a1 len1 cap1, .slice a2 len2 cap2, .slice a3 len3 cap3, .int .u64 a4, .int .u64 a5, .int .u64 a6] w fun e w' => e = .returned (.bool true) ∧ Below w.heap.size w w' := by
  by_cases hlong : 32768 < len0 ∨ 32768 < len1 ∨ 32768 < len2 ∨ 32768 < len3
  · exact s5_long a0 a1 a2 a3 len0 len1 len2 len3 cap0 cap1 cap2 cap3 a4 a5 a6 w0.le w1.le w2.le w3.le hlong w
  by_cases hmis : len1 ≠ len0 ∨ len2 ≠ len0 ∨ len3 ≠ len0
  · exact s5_mis a0 a1 a2 a3 len0 len1 len2 len3 cap0 cap1 cap2 cap3 a4 a5 a6 (by omega) (by omega) (by omega) (by omega) hmis w
  obtain rfl : len1 = len0 := by omega
  obtain rfl : len2 = len1 := by omega
  obtain rfl : len3 = len2 := by omega
  by_cases h0 : len3 = 0
  · subst h0
    exact s5_zero a0 a1 a2 a3 cap0 cap1 cap2 cap3 a4 a5 a6 w6 w
  obtain ⟨gk, ok, rfl, hk, fk⟩ := w0.sl (by omega)
  obtain ⟨gr, orr, rfl, hr, fr⟩ := w1.sl (by omega)
  obtain ⟨go, oo, rfl, ho, _⟩ := w2.sl (by omega)
  obtain ⟨gn, on, rfl, hn, _⟩ := w3.sl (by omega)
  have hmax := fr (len3 - 1) (by omega)
  have e : IntKind.i64.max = 9223372036854775807 := rfl
  simp only [Lit.wf, Bool.and_eq_true, decide_eq_true_eq, e] at hmax
  rcases Int.lt_trichotomy a6 (z0.getD (len3 - 1) 0) with h | rfl | h
  · exact s5_lt gk ok gr orr go oo gn on len3 cap0 cap1 cap2 cap3 _ _ _ _ a4 a5 a6 (by omega) (by omega) w hk hr ho hn h
  · by_cases hm : z1.getD (len3 - 1) 0 = 9223372036854775807
    · exact s5_max gk ok gr orr go oo gn on len3 cap0 cap1 cap2 cap3 (fun i => z0.getD i 0) _ _ _ a4 a5 (by omega) (by omega) w hk hr ho hn hm
    · exact s5_hit gk ok gr orr go oo gn on len3 cap0 cap1 cap2 cap3 (fun i => z0.getD i 0) (fun i => z1.getD i 0) _ _ a4 a5 (by omega) (by omega) w hk hr ho hn fk (show z1.getD (len3 - 1) 0 < 9223372036854775807 by omega)
  · exact s5_new gk ok gr orr go oo gn on len3 cap0 cap1 cap2 cap3 (fun i => z0.getD i 0) _ _ _ a4 a5 a6 (by omega) (by omega) w hk hr ho hn fk w6 h
end Go.Proofs.Qxb6617417a.Sn
