import Derived.Test.Qxb6617417aSn7
namespace Go.Proofs.Qxb6617417a.Sn
open Go.RowKit Go.Deep Go.Maps

/-- A slice of the call's own at the head of block g: the first k integers of z, room for cap. -/
def Own (w : World) (g : Nat) (kd : IntKind) (e : TypeId) (cap : Nat) (z : Nat → Int) (k : Nat) : Prop :=
  w.ownsRow 0 e 1 (.slice (some ⟨g, 0, none⟩) k cap) k ((List.range k).map fun i => .int kd (z i))
theorem Own.snoc {w : World} {g : Nat} {kd : IntKind} {e : TypeId} {cap : Nat} {z : Nat → Int} {k : Nat} {x : Int}
    (h : w.ownsRow 0 e 1 (.slice (some ⟨g, 0, none⟩) (k + 1) cap) (k + 1) (((List.range k).map fun i => .int kd (z i)) ++ [.int kd x])) (hx : x = z k) : Own w g kd e cap z (k + 1) := by
  unfold Own
  rw [List.range_succ, List.map_append]
  simpa [hx] using h
theorem Own.snoc' {w : World} {g : Nat} {kd : IntKind} {e : TypeId} {cap : Nat} {z z' : Nat → Int} {k : Nat} {x : Int}
    (h : w.ownsRow 0 e 1 (.slice (some ⟨g, 0, none⟩) (k + 1) cap) (k + 1) (((List.range k).map fun i => .int kd (z i)) ++ [.int kd x])) (hx : x = z' k) (hz : ∀ i, i < k → z i = z' i) : Own w g kd e cap z' (k + 1) := by
  rw [List.map_congr_left (g := fun i => Value.int kd (z' i)) (fun i hi => by rw [hz i (List.mem_range.1 hi)])] at h
  exact Own.snoc h hx
theorem Own.congr {w : World} {g : Nat} {kd : IntKind} {e : TypeId} {cap : Nat} {z z' : Nat → Int} {k : Nat} (h : Own w g kd e cap z k) (hz : ∀ i, i < k → z i = z' i) : Own w g kd e cap z' k := by
  unfold Own at h ⊢
  rw [List.map_congr_left (g := fun i => Value.int kd (z' i)) (fun i hi => by rw [hz i (List.mem_range.1 hi)])] at h
  exact h
theorem Own.lt {w : World} {g : Nat} {kd : IntKind} {e : TypeId} {cap : Nat} {z : Nat → Int} {k : Nat} (h : Own w g kd e cap z k) : g < w.heap.size := by
  obtain ⟨_, h | ⟨g', cap', cur, hv, _, hg, _⟩⟩ := h
  · simp at h
  · simp at hv
    obtain ⟨rfl, _⟩ := hv
    exact (Array.getElem?_eq_some_iff.1 hg).1
theorem Own.sl {w : World} {g : Nat} {kd : IntKind} {e : TypeId} {cap : Nat} {z : Nat → Int} {k : Nat} (h : Own w g kd e cap z k) : Sl kd w g 0 k z :=
  ⟨h.lt, fun i hi => by
    have := World.ownsRow.cellAt h i (by omega)
    rw [Nat.zero_add, this]
    simp [hi]⟩
theorem Own.kept {w w' : World} {g g' : Nat} {kd : IntKind} {e : TypeId} {cap : Nat} {z : Nat → Int} {k : Nat} (h : Own w g kd e cap z k) (hg : w.grownBy w' (some g')) (hne : g ≠ g') : Own w' g kd e cap z k :=
  World.ownsRow.kept h hg (Or.inr (by simp [Value.ownBlock]; exact hne))
theorem Own.alloc {w : World} {g : Nat} {kd : IntKind} {e : TypeId} {cap : Nat} {z : Nat → Int} {k : Nat} (h : Own w g kd e cap z k) (o : Obj) : Own (w.alloc o) g kd e cap z k := World.ownsRow.alloc h o

theorem info24 : (Try.prog.info? 24).map (fun i => (i.zero, i.size, i.bytes)) = some (some (.int .u64 0), 1, 8) := by kernel_rfl
theorem info3 : (Try.prog.info? 3).map (fun i => (i.zero, i.size, i.bytes)) = some (some (.int .i64 0), 1, 8) := by kernel_rfl
theorem make22 (n : Nat) (hn : n ≤ 40000) (w : World) : (Instr.makeSlice 22 (.int .i64 0) (.int .i64 ((n : Int) + 1))).run Try.prog w = .ok (.slice (some ⟨w.heap.size, 0, none⟩) 0 (n + 1)) (w.alloc (.cells (madeCells #[.int .u64 0] (n + 1)) 24)) := by
  obtain ⟨i, hi, h1, h2, h3⟩ := info_parts info24
  have h := run_make (P := Try.prog) w 22 24 i _ Try.underlying22 hi h1 .i64 .i64 0 ((n : Int) + 1) (by omega) (by omega) (by rw [h3]; omega) (by omega)
  rw [show ((n : Int) + 1).toNat = n + 1 from by omega, h2] at h
  simpa [Value.cells] using h
theorem make23 (n : Nat) (hn : n ≤ 40000) (w : World) : (Instr.makeSlice 23 (.int .i64 0) (.int .i64 ((n : Int) + 1))).run Try.prog w = .ok (.slice (some ⟨w.heap.size, 0, none⟩) 0 (n + 1)) (w.alloc (.cells (madeCells #[.int .i64 0] (n + 1)) 3)) := by
  obtain ⟨i, hi, h1, h2, h3⟩ := info_parts info3
  have h := run_make (P := Try.prog) w 23 3 i _ Try.underlying23 hi h1 .i64 .i64 0 ((n : Int) + 1) (by omega) (by omega) (by rw [h3]; omega) (by omega)
  rw [show ((n : Int) + 1).toNat = n + 1 from by omega, h2] at h
  simpa [Value.cells] using h
theorem own_made (w : World) (kd : IntKind) (e : TypeId) (z : Nat → Int) (c : Nat) (hc : c ≤ maxLen) (cs : Array Value) (hs : cs.size = c) : Own (w.alloc (.cells cs e)) w.heap.size kd e c z 0 :=
  World.ownsRow_made w cs c (Nat.zero_le _) hc (by simpa using hs)

set_option maxHeartbeats 2000000 in
set_option maxRecDepth 100000 in
theorem count_new (gk ok gr orr n c0 c1 : Nat) (K R : Nat → Int) (ts : Int) (hn1 : 1 ≤ n) (hn : n ≤ 32768) (hlt : ∀ i, i < n → K i < ts) (w : World) (hk : Sl .u64 w gk ok n K) (hr : Sl .i64 w gr orr n R) :
    Calls Try.prog 10 #[.slice (some ⟨gk, ok, none⟩) n c0, .slice (some ⟨gr, orr, none⟩) n c1, .int .u64 ts] w fun e w' =>
      e = .returned (.tuple #[.slice (some ⟨w.heap.size, 0, none⟩) (n + 1) (n + 1), .slice (some ⟨w.heap.size + 1, 0, none⟩) (n + 1) (n + 1)]) ∧ Below w.heap.size w w' ∧
        Sl .u64 w' w.heap.size 0 (n + 1) (upd K n ts) ∧ Sl .i64 w' (w.heap.size + 1) 0 (n + 1) (upd R n 1) := by
  have HK := hide hk
  have HR := hide hr
  have HL := hide hlt
  clear hk hr hlt
  have hm1 := make22 n (by omega)
  have hm2 := make23 n (by omega)
  obtain ⟨i0, hi, hz0, hz1, hz2⟩ := info_parts info24
  obtain ⟨i1, hj, hy0, hy1, hy2⟩ := info_parts info3
  go_enter Try.func10, Try.ntmps10
  go_wp2
  clear hm1 hm2
  go_loopw [9, 10, 11, 12] (fun nk nr dn i wr => ∃ k : Nat, k ≤ n ∧ i = .int .i64 k ∧ dn = .bool false ∧ nk = .slice (some ⟨w.heap.size, 0, none⟩) k (n + 1) ∧ nr = .slice (some ⟨w.heap.size + 1, 0, none⟩) k (n + 1) ∧ Below w.heap.size w wr ∧
      Own wr w.heap.size .u64 24 (n + 1) K k ∧ Own wr (w.heap.size + 1) .i64 3 (n + 1) R k) (fun _ _ _ i _ => n - (intOf i).toNat)
  case atStart =>
    refine ⟨0, Nat.zero_le _, rfl, rfl, rfl, rfl, below_allocS (below_allocS (Below.refl _ _) _) _, (own_made w .u64 24 K (n + 1) (by unfold maxLen; omega) _ (size_madeCells _ _)).alloc _, ?_⟩
    have h := own_made (w.alloc (.cells (madeCells #[.int .u64 0] (n + 1)) 24)) .i64 3 R (n + 1) (by unfold maxLen; omega) _ (size_madeCells #[.int .i64 0] (n + 1))
    have e : (w.alloc (.cells (madeCells #[.int .u64 0] (n + 1)) 24)).heap.size = w.heap.size + 1 := by simp
    rw [e] at h
    exact h
  case round =>
    obtain ⟨k, hk, rfl, rfl, rfl, rfl, hB, hO1, hO2⟩ := hrel
    by_cases hlt : k < n
    · have x0 := (HK.out.next hB).2 k hlt
      have l0 := HL.out k hlt
      have l1 : (K k == ts) = false := by rw [beq_eq_false_iff_ne]; omega
      go_wp2_with (first
        | (at_builtin; refine wpList_append_fits _ rfl (.tmp 68) (.tmp 73) 22 rfl 0 24 i0 1 Try.underlying22 hi hz1 w.heap.size k (n + 1) _ rfl (hO1.alloc _) ⟨wr.heap.size, 0, none⟩ 1 1 [.int .u64 (K k)] rfl rfl (cell_one_new _ _ _) (ints_oneCell .u64 [K k]) (by omega) ?_; intro w1 hown1 hgrow1; have hB1 : Below w.heap.size w w1 := Below.grown (below_allocS hB _) hgrow1 (below_allocS hB _).size (fun q hq => by cases hq; exact Nat.le_refl _); have x1 := (HR.out.next hB1).2 k hlt)
        | (at_builtin; refine wpList_append_fits _ rfl (.tmp 75) (.tmp 80) 23 rfl 0 3 i1 1 Try.underlying23 hj hy1 (w.heap.size + 1) k (n + 1) _ rfl (((hO2.alloc _).kept hgrow1 (by omega)).alloc _) ⟨w1.heap.size, 0, none⟩ 1 1 [.int .i64 (R k)] rfl rfl (cell_one_new _ _ _) (ints_oneCell .i64 [R k]) (by omega) ?_; intro w2 hown2 hgrow2))
      go_roundw
      case rel => exact ⟨k + 1, by omega, by go_num, rfl, rfl, rfl, Below.grown (below_allocS hB1 _) hgrow2 (below_allocS hB1 _).size (fun q hq => by cases hq; omega), ((Own.snoc hown1 rfl).alloc _).kept hgrow2 (by omega), Own.snoc hown2 rfl⟩
      case measure => simp [intOf]; omega
    · obtain rfl : k = n := by omega
      go_wp2_with (first
        | (at_builtin; refine wpList_append_fits _ rfl (.tmp 84) (.tmp 86) 22 rfl 0 24 i0 1 Try.underlying22 hi hz1 w.heap.size k (k + 1) _ rfl (hO1.alloc _) ⟨wr.heap.size, 0, none⟩ 1 1 [.int .u64 ts] rfl rfl (cell_one_new _ _ _) (ints_oneCell .u64 [ts]) (by omega) ?_; intro w1 hown1 hgrow1; have hB1 : Below w.heap.size w w1 := Below.grown (below_allocS hB _) hgrow1 (below_allocS hB _).size (fun q hq => by cases hq; exact Nat.le_refl _))
        | (at_builtin; refine wpList_append_fits _ rfl (.tmp 88) (.tmp 89) 23 rfl 0 3 i1 1 Try.underlying23 hj hy1 (w.heap.size + 1) k (k + 1) _ rfl (((hO2.alloc _).kept hgrow1 (by omega)).alloc _) ⟨w1.heap.size, 0, none⟩ 1 1 [.int .i64 1] rfl rfl (cell_one_new _ _ _) (ints_oneCell .i64 [1]) (by omega) ?_; intro w2 hown2 hgrow2))
      refine bodyPost_ret (v := .tuple #[.slice (some ⟨w.heap.size, 0, none⟩) (k + 1) (k + 1), .slice (some ⟨w.heap.size + 1, 0, none⟩) (k + 1) (k + 1)]) (by simp [results, Try.results10, go_sem]) rfl ⟨rfl, Below.grown (below_allocS hB1 _) hgrow2 (below_allocS hB1 _).size (fun q hq => by cases hq; omega), ?_, ?_⟩
      · exact (((Own.snoc' (z' := upd K k ts) hown1 (by simp [upd]) (fun i hi => by simp [upd]; omega)).alloc _).kept hgrow2 (by omega)).sl
      · exact (Own.snoc' (z' := upd R k 1) hown2 (by simp [upd]) (fun i hi => by simp [upd]; omega)).sl

set_option maxHeartbeats 2000000 in
set_option maxRecDepth 100000 in
theorem count_hit (gk ok gr orr n c0 c1 : Nat) (K R : Nat → Int) (hn1 : 1 ≤ n) (hn : n ≤ 32768) (hlt : ∀ i, i < n - 1 → K i < K (n - 1)) (r0 : 1 ≤ R (n - 1)) (r1 : R (n - 1) < 9223372036854775807) (w : World) (hk : Sl .u64 w gk ok n K) (hr : Sl .i64 w gr orr n R) :
    Calls Try.prog 10 #[.slice (some ⟨gk, ok, none⟩) n c0, .slice (some ⟨gr, orr, none⟩) n c1, .int .u64 (K (n - 1))] w fun e w' =>
      e = .returned (.tuple #[.slice (some ⟨w.heap.size, 0, none⟩) n (n + 1), .slice (some ⟨w.heap.size + 1, 0, none⟩) n (n + 1)]) ∧ Below w.heap.size w w' ∧
        Sl .u64 w' w.heap.size 0 n K ∧ Sl .i64 w' (w.heap.size + 1) 0 n (upd R (n - 1) (R (n - 1) + 1)) := by
  have HK := hide hk
  have HR := hide hr
  have HL := hide hlt
  clear hk hr hlt
  have hm1 := make22 n (by omega)
  have hm2 := make23 n (by omega)
  obtain ⟨i0, hi, hz0, hz1, hz2⟩ := info_parts info24
  obtain ⟨i1, hj, hy0, hy1, hy2⟩ := info_parts info3
  go_enter Try.func10, Try.ntmps10
  go_wp2
  clear hm1 hm2
  go_loopw [9, 10, 11, 12] (fun nk nr dn i wr => ∃ k : Nat, k ≤ n ∧ i = .int .i64 k ∧ dn = .bool (decide (k = n)) ∧ nk = .slice (some ⟨w.heap.size, 0, none⟩) k (n + 1) ∧ nr = .slice (some ⟨w.heap.size + 1, 0, none⟩) k (n + 1) ∧ Below w.heap.size w wr ∧
      Own wr w.heap.size .u64 24 (n + 1) K k ∧ Own wr (w.heap.size + 1) .i64 3 (n + 1) (upd R (n - 1) (R (n - 1) + 1)) k) (fun _ _ _ i _ => n - (intOf i).toNat)
  case atStart =>
    refine ⟨0, Nat.zero_le _, rfl, by rw [decide_eq_false (by omega)], rfl, rfl, below_allocS (below_allocS (Below.refl _ _) _) _, (own_made w .u64 24 K (n + 1) (by unfold maxLen; omega) _ (size_madeCells _ _)).alloc _, ?_⟩
    have h := own_made (w.alloc (.cells (madeCells #[.int .u64 0] (n + 1)) 24)) .i64 3 (upd R (n - 1) (R (n - 1) + 1)) (n + 1) (by unfold maxLen; omega) _ (size_madeCells #[.int .i64 0] (n + 1))
    have e : (w.alloc (.cells (madeCells #[.int .u64 0] (n + 1)) 24)).heap.size = w.heap.size + 1 := by simp
    rw [e] at h
    exact h
  case round =>
    obtain ⟨k, hk, rfl, hd, rfl, rfl, hB, hO1, hO2⟩ := hrel
    by_cases hlt : k < n - 1
    · rw [decide_eq_false (by omega)] at hd
      subst hd
      have hlt' : k < n := by omega
      have x0 := (HK.out.next hB).2 k hlt'
      have l0 := HL.out k hlt
      have l1 : (K k == K (n - 1)) = false := by rw [beq_eq_false_iff_ne]; omega
      go_wp2_with (first
        | (at_builtin; refine wpList_append_fits _ rfl (.tmp 68) (.tmp 73) 22 rfl 0 24 i0 1 Try.underlying22 hi hz1 w.heap.size k (n + 1) _ rfl (hO1.alloc _) ⟨wr.heap.size, 0, none⟩ 1 1 [.int .u64 (K k)] rfl rfl (cell_one_new _ _ _) (ints_oneCell .u64 [K k]) (by omega) ?_; intro w1 hown1 hgrow1; have hB1 : Below w.heap.size w w1 := Below.grown (below_allocS hB _) hgrow1 (below_allocS hB _).size (fun q hq => by cases hq; exact Nat.le_refl _); have x1 := (HR.out.next hB1).2 k hlt')
        | (at_builtin; refine wpList_append_fits _ rfl (.tmp 75) (.tmp 80) 23 rfl 0 3 i1 1 Try.underlying23 hj hy1 (w.heap.size + 1) k (n + 1) _ rfl (((hO2.alloc _).kept hgrow1 (by omega)).alloc _) ⟨w1.heap.size, 0, none⟩ 1 1 [.int .i64 (R k)] rfl rfl (cell_one_new _ _ _) (ints_oneCell .i64 [R k]) (by omega) ?_; intro w2 hown2 hgrow2))
      go_roundw
      case rel => exact ⟨k + 1, by omega, by go_num, by rw [decide_eq_false (by omega)], rfl, rfl, Below.grown (below_allocS hB1 _) hgrow2 (below_allocS hB1 _).size (fun q hq => by cases hq; omega), ((Own.snoc hown1 rfl).alloc _).kept hgrow2 (by omega), Own.snoc hown2 (by simp [upd]; omega)⟩
      case measure => simp [intOf]; omega
    · by_cases hlt2 : k < n
      · rw [decide_eq_false (by omega)] at hd
        subst hd
        obtain rfl : k = n - 1 := by omega
        have x0 := (HK.out.next hB).2 (n - 1) hlt2
        go_wp2_with (first
          | (at_builtin; refine wpList_append_fits _ rfl (.tmp 36) (.tmp 41) 22 rfl 0 24 i0 1 Try.underlying22 hi hz1 w.heap.size (n - 1) (n + 1) _ rfl (hO1.alloc _) ⟨wr.heap.size, 0, none⟩ 1 1 [.int .u64 (K (n - 1))] rfl rfl (cell_one_new _ _ _) (ints_oneCell .u64 [K (n - 1)]) (by omega) ?_; intro w1 hown1 hgrow1; have hB1 : Below w.heap.size w w1 := Below.grown (below_allocS hB _) hgrow1 (below_allocS hB _).size (fun q hq => by cases hq; exact Nat.le_refl _); have x1 := (HR.out.next hB1).2 (n - 1) hlt2)
          | (at_builtin; refine wpList_append_fits _ rfl (.tmp 43) (.tmp 49) 23 rfl 0 3 i1 1 Try.underlying23 hj hy1 (w.heap.size + 1) (n - 1) (n + 1) _ rfl (((hO2.alloc _).kept hgrow1 (by omega)).alloc _) ⟨w1.heap.size, 0, none⟩ 1 1 [.int .i64 (R (n - 1) + 1)] rfl rfl (cell_one_new _ _ _) (ints_oneCell .i64 [R (n - 1) + 1]) (by omega) ?_; intro w2 hown2 hgrow2))
        go_roundw
        case rel =>
          have e : n - 1 + 1 = n := by omega
          have f1 := ((Own.snoc hown1 rfl).alloc (.cells #[.int .i64 (R (n - 1) + 1)] 3)).kept hgrow2 (by omega)
          have f2 := Own.snoc (z := upd R (n - 1) (R (n - 1) + 1)) hown2 (by simp [upd])
          rw [e] at f1 f2
          exact ⟨n, Nat.le_refl _, by go_num, by rw [decide_eq_true rfl], by first | rfl | rw [e], by first | rfl | rw [e], Below.grown (below_allocS hB1 _) hgrow2 (below_allocS hB1 _).size (fun q hq => by cases hq; omega), f1, f2⟩
        case measure => simp [intOf]; omega
      · obtain rfl : k = n := by omega
        rw [decide_eq_true rfl] at hd
        subst hd
        go_wp2
        refine bodyPost_ret (v := .tuple #[.slice (some ⟨w.heap.size, 0, none⟩) k (k + 1), .slice (some ⟨w.heap.size + 1, 0, none⟩) k (k + 1)]) (by simp [results, Try.results10, go_sem]) rfl ⟨rfl, hB, hO1.sl, hO2.sl⟩

set_option maxHeartbeats 2000000 in
set_option maxRecDepth 100000 in
theorem count_zero' (a0 a1 : Option Addr) (n c0 c1 : Nat) (K R : Nat → Int) (ts : Int) (hn : n ≤ 32768) (hn0 : n = 0) (w : World) :
    Calls Try.prog 10 #[.slice a0 n c0, .slice a1 n c1, .int .u64 ts] w fun e w' =>
      e = .returned (.tuple #[.slice (some ⟨w.heap.size, 0, none⟩) (n + 1) (n + 1), .slice (some ⟨w.heap.size + 1, 0, none⟩) (n + 1) (n + 1)]) ∧ Below w.heap.size w w' ∧
        Sl .u64 w' w.heap.size 0 (n + 1) (upd K n ts) ∧ Sl .i64 w' (w.heap.size + 1) 0 (n + 1) (upd R n 1) := by
  have HN := hide hn0
  clear hn0
  have hm1 := make22 n (by omega)
  have hm2 := make23 n (by omega)
  obtain ⟨i0, hi, hz0, hz1, hz2⟩ := info_parts info24
  obtain ⟨i1, hj, hy0, hy1, hy2⟩ := info_parts info3
  go_enter Try.func10, Try.ntmps10
  go_wp2
  clear hm1 hm2
  go_loopw [9, 10, 11, 12] (fun nk nr dn i wr => ∃ k : Nat, k ≤ n ∧ i = .int .i64 k ∧ dn = .bool false ∧ nk = .slice (some ⟨w.heap.size, 0, none⟩) k (n + 1) ∧ nr = .slice (some ⟨w.heap.size + 1, 0, none⟩) k (n + 1) ∧ Below w.heap.size w wr ∧
      Own wr w.heap.size .u64 24 (n + 1) K k ∧ Own wr (w.heap.size + 1) .i64 3 (n + 1) R k) (fun _ _ _ i _ => n - (intOf i).toNat)
  case atStart =>
    refine ⟨0, Nat.zero_le _, rfl, rfl, rfl, rfl, below_allocS (below_allocS (Below.refl _ _) _) _, (own_made w .u64 24 K (n + 1) (by unfold maxLen; omega) _ (size_madeCells _ _)).alloc _, ?_⟩
    have h := own_made (w.alloc (.cells (madeCells #[.int .u64 0] (n + 1)) 24)) .i64 3 R (n + 1) (by unfold maxLen; omega) _ (size_madeCells #[.int .i64 0] (n + 1))
    have e : (w.alloc (.cells (madeCells #[.int .u64 0] (n + 1)) 24)).heap.size = w.heap.size + 1 := by simp
    rw [e] at h
    exact h
  case round =>
    obtain ⟨k, hk, rfl, rfl, rfl, rfl, hB, hO1, hO2⟩ := hrel
    by_cases hlt : k < n
    · have := HN.out; omega
    · obtain rfl : k = n := by omega
      go_wp2_with (first
        | (at_builtin; refine wpList_append_fits _ rfl (.tmp 84) (.tmp 86) 22 rfl 0 24 i0 1 Try.underlying22 hi hz1 w.heap.size k (k + 1) _ rfl (hO1.alloc _) ⟨wr.heap.size, 0, none⟩ 1 1 [.int .u64 ts] rfl rfl (cell_one_new _ _ _) (ints_oneCell .u64 [ts]) (by omega) ?_; intro w1 hown1 hgrow1; have hB1 : Below w.heap.size w w1 := Below.grown (below_allocS hB _) hgrow1 (below_allocS hB _).size (fun q hq => by cases hq; exact Nat.le_refl _))
        | (at_builtin; refine wpList_append_fits _ rfl (.tmp 88) (.tmp 89) 23 rfl 0 3 i1 1 Try.underlying23 hj hy1 (w.heap.size + 1) k (k + 1) _ rfl (((hO2.alloc _).kept hgrow1 (by omega)).alloc _) ⟨w1.heap.size, 0, none⟩ 1 1 [.int .i64 1] rfl rfl (cell_one_new _ _ _) (ints_oneCell .i64 [1]) (by omega) ?_; intro w2 hown2 hgrow2))
      refine bodyPost_ret (v := .tuple #[.slice (some ⟨w.heap.size, 0, none⟩) (k + 1) (k + 1), .slice (some ⟨w.heap.size + 1, 0, none⟩) (k + 1) (k + 1)]) (by simp [results, Try.results10, go_sem]) rfl ⟨rfl, Below.grown (below_allocS hB1 _) hgrow2 (below_allocS hB1 _).size (fun q hq => by cases hq; omega), ?_, ?_⟩
      · exact (((Own.snoc' (z' := upd K k ts) hown1 (by simp [upd]) (fun i hi => by simp [upd]; omega)).alloc _).kept hgrow2 (by omega)).sl
      · exact (Own.snoc' (z' := upd R k 1) hown2 (by simp [upd]) (fun i hi => by simp [upd]; omega)).sl

theorem count_zero (a0 a1 : Option Addr) (c0 c1 : Nat) (K R : Nat → Int) (ts : Int) (w : World) :
    Calls Try.prog 10 #[.slice a0 0 c0, .slice a1 0 c1, .int .u64 ts] w fun e w' =>
      e = .returned (.tuple #[.slice (some ⟨w.heap.size, 0, none⟩) 1 1, .slice (some ⟨w.heap.size + 1, 0, none⟩) 1 1]) ∧ Below w.heap.size w w' ∧
        Sl .u64 w' w.heap.size 0 1 (upd K 0 ts) ∧ Sl .i64 w' (w.heap.size + 1) 0 1 (upd R 0 1) := count_zero' a0 a1 0 c0 c1 K R ts (by omega) rfl w
end Go.Proofs.Qxb6617417a.Sn
