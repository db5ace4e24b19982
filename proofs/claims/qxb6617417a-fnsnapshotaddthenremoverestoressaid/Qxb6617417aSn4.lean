import Derived.Test.Qxb6617417aSn3
namespace Go.Proofs.Qxb6617417a.Sn
open Go.RowKit Go.Deep Go.Maps

/-- What snapWellFormed asks of the first k entries. -/
def WFk (k n : Nat) (K R O N : Nat → Int) : Prop :=
  ∀ i, i < k → 1 ≤ R i ∧ (0 < i → K (i - 1) < K i ∧ O i = K (i - 1)) ∧ (i + 1 < n → N i = K (i + 1))

theorem wfk_step {k n : Nat} {K R O N : Nat → Int} (h : WFk k n K R O N) (h1 : 1 ≤ R k) (h2 : 0 < k → K (k - 1) < K k ∧ O k = K (k - 1)) (h3 : k + 1 < n → N k = K (k + 1)) : WFk (k + 1) n K R O N := fun i hi => by
  by_cases e : i = k
  · subst e; exact ⟨h1, h2, h3⟩
  · exact h i (by omega)

set_option maxHeartbeats 1000000 in
theorem wf_mis (a0 a1 a2 a3 : Option Addr) (n0 n1 n2 n3 c0 c1 c2 c3 : Nat) (o nw : Int) (h0 : n0 ≤ 32768) (h1 : n1 ≤ 32768) (_h2 : n2 ≤ 32768) (_h3 : n3 ≤ 32768) (h : n1 ≠ n0 ∨ n2 ≠ n0 ∨ n3 ≠ n0) (w : World) :
    Calls Try.prog 9 #[.slice a0 n0 c0, .slice a1 n1 c1, .slice a2 n2 c2, .slice a3 n3 c3, .int .u64 o, .int .u64 nw] w fun e w' => e = .returned (.bool false) ∧ w' = w := by
  by_cases e1 : n1 = n0
  · by_cases e2 : n2 = n0
    · have e3 : ((n3 : Int) != (n0 : Int)) = true := by rw [bne_iff_ne]; omega
      subst e1 e2
      go_enter Try.func9, Try.ntmps9
      go_wp2
      go_ret
      exact ⟨rfl, rfl⟩
    · have e3 : ((n2 : Int) != (n0 : Int)) = true := by rw [bne_iff_ne]; omega
      subst e1
      go_enter Try.func9, Try.ntmps9
      go_wp2
      go_ret
      exact ⟨rfl, rfl⟩
  · have e3 : ((n1 : Int) != (n0 : Int)) = true := by rw [bne_iff_ne]; omega
    go_enter Try.func9, Try.ntmps9
    go_wp2
    go_ret
    exact ⟨rfl, rfl⟩

set_option maxHeartbeats 1000000 in
set_option maxRecDepth 100000 in
theorem wf_zero (a0 a1 a2 a3 : Option Addr) (c0 c1 c2 c3 : Nat) (o nw : Int) (w : World) :
    Calls Try.prog 9 #[.slice a0 0 c0, .slice a1 0 c1, .slice a2 0 c2, .slice a3 0 c3, .int .u64 o, .int .u64 nw] w fun e w' => e = .returned (.bool true) ∧ w' = w := by
  go_enter Try.func9, Try.ntmps9
  go_wp2
  refine wp_loop_rounds 1 ?_
  rw [rounds_succ]
  go_wp2
  go_ret
  exact ⟨rfl, rfl⟩

set_option maxHeartbeats 4000000 in
set_option maxRecDepth 100000 in
theorem wf_loop (gk ok gr orr go oo gn on n c0 c1 c2 c3 : Nat) (K R O N : Nat → Int) (o nw : Int) (hn1 : 1 ≤ n) (hn : n ≤ 32768) (w : World)
    (hk : Sl .u64 w gk ok n K) (hr : Sl .i64 w gr orr n R) (ho : Sl .u64 w go oo n O) (hw : Sl .u64 w gn on n N) :
    Calls Try.prog 9 #[.slice (some ⟨gk, ok, none⟩) n c0, .slice (some ⟨gr, orr, none⟩) n c1, .slice (some ⟨go, oo, none⟩) n c2, .slice (some ⟨gn, on, none⟩) n c3, .int .u64 o, .int .u64 nw] w fun e w' =>
      ∃ bb : Bool, e = .returned (.bool bb) ∧ Below w.heap.size w w' ∧ (bb = true → WFk n n K R O N ∧ o = K 0 ∧ nw = K (n - 1)) := by
  have HK := hide hk
  have HR := hide hr
  have HO := hide ho
  have HN := hide hw
  clear hk hr ho hw
  go_enter Try.func9, Try.ntmps9
  go_wp2
  go_loopw [14] (fun i wr => ∃ k : Nat, k ≤ n ∧ i = .int .i64 k ∧ Below w.heap.size w wr ∧ WFk k n K R O N) (fun i _ => n - (intOf i).toNat)
  case atStart => exact ⟨0, Nat.zero_le _, rfl, Below.refl _ _, fun i hi => absurd hi (Nat.not_lt_zero _)⟩
  case round =>
    obtain ⟨k, hk, rfl, hB, hW⟩ := hrel
    have HW := hide hW
    clear hW
    by_cases hlt : k < n
    · have r0 := (HR.out.next hB).2 k hlt
      by_cases hR : R k < 1
      · go_wp2
        go_ret
        exact ⟨false, rfl, hB, by simp⟩
      · have x0 := (HK.out.next hB).2 k hlt
        by_cases h1 : 0 < k
        · have x1 := (HK.out.next hB).2 (k - 1) (by omega)
          have x2 := (HO.out.next hB).2 k hlt
          by_cases hK : K k ≤ K (k - 1)
          · go_wp2
            go_quiet (fail)
            go_wp2
            go_ret
            exact ⟨false, rfl, below_drewN hB _, by simp⟩
          · cases hO : (O k != K (k - 1))
            · have HO' := hide hO
              by_cases h2 : k + 1 < n
              · have x3 := (HN.out.next hB).2 k hlt
                have x4 := (HK.out.next hB).2 (k + 1) h2
                have hg : decide ((k : Int) + 1 < (n : Int)) = true := by simp; omega
                cases hN : (N k != K (k + 1))
                · have HN' := hide hN
                  go_wp2
                  go_quiet (fail)
                  go_wp2
                  go_quiet (fail)
                  go_wp2
                  go_quiet (fail)
                  go_wp2
                  go_roundw
                  case rel => exact ⟨k + 1, by omega, by go_num, by repeat (first | exact hB | refine below_drewN ?_ _), wfk_step HW.out (by omega) (fun _ => ⟨by omega, by have := HO'.out; simpa using this⟩) (fun _ => by have := HN'.out; simpa using this)⟩
                  case measure => simp [intOf]; omega
                · go_wp2
                  go_quiet (fail)
                  go_wp2
                  go_quiet (fail)
                  go_wp2
                  go_quiet (fail)
                  go_wp2
                  go_ret
                  exact ⟨false, rfl, by repeat (first | exact hB | refine below_drewN ?_ _), by simp⟩
              · have hg : decide ((k : Int) + 1 < (n : Int)) = false := by simp; omega
                go_wp2
                go_quiet (fail)
                go_wp2
                go_quiet (fail)
                go_wp2
                go_quiet (fail)
                go_wp2
                go_roundw
                case rel => exact ⟨k + 1, by omega, by go_num, by repeat (first | exact hB | refine below_drewN ?_ _), wfk_step HW.out (by omega) (fun _ => ⟨by omega, by have := HO'.out; simpa using this⟩) (fun h => absurd h h2)⟩
                case measure => simp [intOf]; omega
            · go_wp2
              go_quiet (fail)
              go_wp2
              go_quiet (fail)
              go_wp2
              go_ret
              exact ⟨false, rfl, by repeat (first | exact hB | refine below_drewN ?_ _), by simp⟩
        · have hg0 : decide (0 < (k : Int)) = false := by simp; omega
          by_cases h2 : k + 1 < n
          · have x3 := (HN.out.next hB).2 k hlt
            have x4 := (HK.out.next hB).2 (k + 1) h2
            have hg : decide ((k : Int) + 1 < (n : Int)) = true := by simp; omega
            cases hN : (N k != K (k + 1))
            · have HN' := hide hN
              go_wp2
              go_quiet (fail)
              go_wp2
              go_roundw
              case rel => exact ⟨k + 1, by omega, by go_num, by repeat (first | exact hB | refine below_drewN ?_ _), wfk_step HW.out (by omega) (fun h => absurd h h1) (fun _ => by have := HN'.out; simpa using this)⟩
              case measure => simp [intOf]; omega
            · go_wp2
              go_quiet (fail)
              go_wp2
              go_ret
              exact ⟨false, rfl, by repeat (first | exact hB | refine below_drewN ?_ _), by simp⟩
          · have hg : decide ((k : Int) + 1 < (n : Int)) = false := by simp; omega
            go_wp2
            go_quiet (fail)
            go_wp2
            go_roundw
            case rel => exact ⟨k + 1, by omega, by go_num, by repeat (first | exact hB | refine below_drewN ?_ _), wfk_step HW.out (by omega) (fun h => absurd h h1) (fun h => absurd h h2)⟩
            case measure => simp [intOf]; omega
    · obtain rfl : k = n := by omega
      have y0 := (HK.out.next hB).2 0 (by omega)
      have y1 := (HK.out.next hB).2 (k - 1) (by omega)
      rw [Nat.add_zero] at y0
      cases e1 : (o != K 0)
      · have E1 := hide e1
        cases e2 : (nw != K (k - 1))
        · have E2 := hide e2
          go_wp2
          go_ret
          exact ⟨true, rfl, hB, fun _ => ⟨HW.out, by have := E1.out; simpa using this, by have := E2.out; simpa using this⟩⟩
        · go_wp2
          go_ret
          exact ⟨false, rfl, hB, by simp⟩
      · go_wp2
        go_ret
        exact ⟨false, rfl, hB, by simp⟩
end Go.Proofs.Qxb6617417a.Sn
