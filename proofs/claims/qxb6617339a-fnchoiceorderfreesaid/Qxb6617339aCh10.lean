import Derived.Test.Qxb6617339aCh9
namespace Go.Proofs.Qxb6617339a.Ch
open Go.RowKit Go.Deep

theorem swap_facts (w1 w3 : World) (gF gS m i j : Nat) (S : Nat → Int) (B : Nat → Bool) (ps : Nat → Nat) (hrow : w3.rowIs gF 32 (m * 2) (pc S B)) (hsw : w3.rowIs gS 35 m (fun k => .pointer (some ⟨ps k, 0, none⟩)))
    (hne : ¬ gF = gS) (hgF : w1.heap.size ≤ gF) (hgS : w1.heap.size ≤ gS) (hB : Below w1.heap.size w1 w3) (W : World)
    (hW : W = (((((((w3.setCell ⟨gF, i * 2, none⟩ (.int .i64 (S j))).setCell ⟨gF, i * 2 + 1, none⟩ (.bool (B j))).setCell ⟨gF, j * 2, none⟩ (.int .i64 (S i))).setCell ⟨gF, j * 2 + 1, none⟩ (.bool (B i))).setCell
      ⟨gS, i, none⟩ (.pointer (some ⟨ps j, 0, none⟩))).setCell ⟨gS, j, none⟩ (.pointer (some ⟨ps i, 0, none⟩))).alloc (.cells #[.int .i64 (S i), .bool (B i)] 32)).alloc (.cells #[.int .i64 (S j), .bool (B j)] 32)) :
    W.heap.size = w3.heap.size + 1 + 1 ∧ Below w1.heap.size w1 W ∧ W.rowIs gF 32 (m * 2) (pc (sw S i j) (sw B i j)) ∧ W.rowIs gS 35 m (fun k => .pointer (some ⟨sw ps i j k, 0, none⟩)) := by
  subst hW
  refine ⟨by simp [World.setCell], ?_, ?_, ?_⟩
  · exact below_allocS (below_allocS ((((((hB.setCell hgF _).setCell hgF _).setCell hgF _).setCell hgF _).setCell hgS _).setCell hgS _) _) _
  · exact (((((pc_set (i := j) (s := S i) (b := B i) (pc_set (i := i) (s := S j) (b := B j) hrow)).setOther (a := ⟨gS, i, none⟩) hne _).setOther (a := ⟨gS, j, none⟩) hne _).alloc _).alloc _)
  · have hne' : gS ≠ gF := fun h => hne h.symm
    have h1 := (((hsw.setOther (a := ⟨gF, i * 2, none⟩) hne' (.int .i64 (S j))).setOther (a := ⟨gF, i * 2 + 1, none⟩) hne' (.bool (B j))).setOther (a := ⟨gF, j * 2, none⟩) hne' (.int .i64 (S i))).setOther (a := ⟨gF, j * 2 + 1, none⟩) hne' (.bool (B i))
    exact (((ptr_set (i := j) (q := ps i) (ptr_set (i := i) (q := ps j) h1)).alloc _).alloc _)

set_option maxHeartbeats 4000000 in
set_option maxRecDepth 100000 in
theorem free_in (b off n cap i j : Nat) (S : Nat → Int) (B : Nat → Bool) (hn1 : 2 ≤ n) (hn : n ≤ 65536) (hi : i < n) (hj : j < n) (hij : i ≠ j) (w : World) (hs : Subs w b off n S B) :
    Calls Try.prog 6 #[.slice (some ⟨b, off, none⟩) n cap, .int .i64 (i : Int), .int .i64 (j : Int)] w fun e w' => e = .returned (.bool true) ∧ Below w.heap.size w w' := by
  have HS := hide hs.2
  go_enter Try.func6, Try.ntmps6
  go_wp2_with (go_at_call 17; refine (bytes6_any _ n cap _ _ hn _).mono ?_; rintro e w' ⟨rfl, hw⟩; obtain rfl := hw.symm)
  go_loop [8] (fun i => ∃ k : Nat, k ≤ n ∧ i = .int .i64 k ∧ ∀ j, j < k → 0 ≤ S j ∧ S j ≤ 131073) (fun i => n - (intOf i).toNat)
  case atStart => exact ⟨0, Nat.zero_le _, rfl, fun j hj => absurd hj (Nat.not_lt_zero _)⟩
  case round =>
    obtain ⟨k, hk, rfl, hall⟩ := hrel
    have HA := hide hall
    clear hall
    by_cases hlt : k < n
    · obtain ⟨c0, c1⟩ := HS.out k hlt
      by_cases h1 : S k < 0
      · go_wp2
        go_ret
        exact ⟨rfl, Below.refl _ _⟩
      · by_cases h2 : 131073 < S k
        · go_wp2
          go_ret
          exact ⟨rfl, Below.refl _ _⟩
        · go_wp2
          go_round
          case rel => exact ⟨k + 1, by omega, by go_num, fun j hj => by
            by_cases e : j = k
            · subst e; omega
            · exact HA.out j (by omega)⟩
          case measure => simp [intOf]; omega
    · obtain rfl : k = n := by omega
      clear HS
      go_wp2_with fail
      refine (terms_any b off k cap S B hn w hs).mono ?_
      rintro e w1 ⟨rfl, hb, ps, hrow, hT⟩
      have hP := ptrs_of_row hrow
      have hB := hb
      have hs1 := hs.next hb
      clear hrow hb
      have hmk := make32 k hn
      go_wp2
      clear hmk
      go_loopw [11] (fun i wr => ∃ m : Nat, m ≤ k ∧ i = .int .i64 m ∧ Below w1.heap.size w1 wr ∧ wr.rowIs w1.heap.size 32 (k * 2) (pck S B m)) (fun i _ => k - (intOf i).toNat)
      case atStart => exact ⟨0, Nat.zero_le _, rfl, below_allocS (Below.refl _ _) _, made32_row w1 k S B⟩
      case round =>
        obtain ⟨m, hm, rfl, hB1, hrow⟩ := hrel
        by_cases hlt2 : m < k
        · obtain ⟨c0, c1⟩ := (hs1.next hB1).2 m hlt2
          have fz0 := hrow.frozen (m * 2)
          have fz1 := hrow.frozen (m * 2 + 1)
          have d0 := hrow.cell (i := m * 2) (by omega)
          have d1 := hrow.cell (i := m * 2 + 1) (by omega)
          have R := hide (pck_set hrow)
          clear hrow
          go_wp2
          go_roundw
          case rel => exact ⟨m + 1, by omega, by go_num, (hB1.setCell (Nat.le_refl _) _).setCell (Nat.le_refl _) _, R.out⟩
          case measure => simp [intOf]; omega
        · obtain rfl : m = k := by omega
          replace hrow : wr.rowIs w1.heap.size 32 (m * 2) (pc S B) := hrow.congr (fun o ho => by unfold pck pc; simp [show o / 2 < m by omega])
          go_wp2_with fail
          refine (copy_any w.heap.size 0 m m ps hn wr (hP.next hB1)).mono ?_
          rintro e w3 ⟨rfl, hb, hsw⟩
          have hgF := hrow.lt
          replace hrow := rowIs_next hrow hb
          replace hB1 := hB1.trans (hb.mono hB1.size)
          clear hb
          have HR := hide hrow
          have HW := hide hsw
          obtain ⟨f0, f1⟩ := pc_cells hrow hi
          obtain ⟨f2, f3⟩ := pc_cells hrow hj
          have g0 := hrow.frozen (i * 2)
          have g1 := hrow.frozen (i * 2 + 1)
          have g2 := hrow.frozen (j * 2)
          have g3 := hrow.frozen (j * 2 + 1)
          have p0 := hsw.cell hi
          have p1 := hsw.cell hj
          have q0 := hsw.frozen i
          have q1 := hsw.frozen j
          have z0 := hrow.lt
          have z1 := hsw.lt
          have z2 : ¬ w1.heap.size = wr.heap.size := by omega
          have z3 : ¬ wr.heap.size = w1.heap.size := by omega
          have n1 : ¬ i * 2 = j * 2 + 1 := by omega
          have n2 : ¬ j * 2 = i * 2 + 1 := by omega
          have n3 : ¬ i * 2 + 1 = j * 2 := by omega
          have n4 : ¬ j * 2 + 1 = i * 2 := by omega
          have n5 : ¬ i = j := hij
          have n6 : ¬ j = i := fun h => hij h.symm
          clear hrow hsw
          go_wp2_with fail
          obtain ⟨hsz, hBs, hF, hG⟩ := swap_facts w1 w3 w1.heap.size wr.heap.size m i j S B ps HR.out HW.out z2 (Nat.le_refl _) (by omega) hB1 _ rfl
          have HSZ := hide hsz
          have HBD := hide (sw_bd S i j m hi hj HA.out)
          clear hsz f0 f1 f2 f3 g0 g1 g2 g3 p0 p1 q0 q1 z0 z1 z2 z3 HR HW hB1
          replace hP := hP.next hBs
          replace hT := hT.next hBs
          replace hs1 := hs1.next hBs
          replace hB := Below.transS hB hBs
          have hPs := ptrs_of_row hG
          have hSs := subs_of_row hF
          clear hBs hF hG
          go_fit (zzChoice_any w.heap.size 0 m m ps S B (by omega) hn HA.out _ hP hT)
          rintro e w5 ⟨rfl, hb, hC1⟩
          rw [HSZ.out] at hC1
          replace hB := Below.transS hB hb
          replace hP := hP.next hb
          replace hT := hT.next hb
          replace hs1 := hs1.next hb
          replace hPs := hPs.next hb
          replace hSs := hSs.next hb
          clear hb
          go_wp2_with fail
          go_fit (zzChoice_any wr.heap.size 0 m m (sw ps i j) (sw S i j) (sw B i j) (by omega) hn HBD.out w5 hPs (hT.sw hi hj))
          rintro e w6 ⟨rfl, hb, hC2⟩
          replace hB := Below.transS hB hb
          replace hP := hP.next hb
          replace hs1 := hs1.next hb
          replace hPs := hPs.next hb
          replace hSs := hSs.next hb
          replace hC1 := hC1.next hb
          clear hb hT
          go_wp2_with fail
          go_fit (choiceIs_any (w3.heap.size + 1 + 1) w.heap.size 0 m m b off cap ps S B hn HA.out w6 hC1 hP hs1)
          rintro e w7 ⟨rfl, hb⟩
          replace hB := Below.transS hB hb
          replace hPs := hPs.next hb
          replace hSs := hSs.next hb
          replace hC1 := hC1.next hb
          replace hC2 := hC2.next hb
          clear hb hP hs1
          go_wp2_with fail
          go_fit (choiceIs_any w5.heap.size wr.heap.size 0 m m w1.heap.size 0 m (sw ps i j) (sw S i j) (sw B i j) hn HBD.out w7 hC2 hPs hSs)
          rintro e w8 ⟨rfl, hb⟩
          replace hB := Below.transS hB hb
          replace hC1 := hC1.next hb
          replace hC2 := hC2.next hb
          clear hb hPs hSs
          rw [csz_sw S i j m hi hj, anyTo_sw B i j m hi hj] at hC2
          obtain ⟨_, _, f3, f6, _⟩ := hC1
          obtain ⟨_, _, s3, s6, _⟩ := hC2
          go_wp2_with fail
          go_fit (termSize_any _ _ _ f6)
          rintro e w' ⟨rfl, hw⟩
          obtain rfl := hw.symm
          go_wp2_with fail
          go_fit (termSize_any _ _ _ s6)
          rintro e w' ⟨rfl, hw⟩
          obtain rfl := hw.symm
          go_wp2_with fail
          go_fit (termBack_any _ _ _ f3)
          rintro e w' ⟨rfl, hw⟩
          obtain rfl := hw.symm
          go_wp2_with fail
          go_fit (termBack_any _ _ _ s3)
          rintro e w' ⟨rfl, hw⟩
          obtain rfl := hw.symm
          go_wp2
          go_ret
          exact ⟨rfl, hB⟩

end Go.Proofs.Qxb6617339a.Ch
