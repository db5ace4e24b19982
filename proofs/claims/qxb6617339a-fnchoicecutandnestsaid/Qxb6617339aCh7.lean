import Derived.Test.Qxb6617339aCh5
import Derived.Deep.DeepFit
namespace Go.Proofs.Qxb6617339a.Ch
open Go.RowKit Go.Deep

theorem pair_facts (w : World) (p q : Nat) (s1 s2 : Int) (b1 b2 : Bool) (h1 : TermOK w p s1 b1) (h2 : TermOK w q s2 b2) (W : World)
    (hW : W = (w.alloc (.cells #[.pointer (some ⟨p, 0, none⟩), .pointer (some ⟨q, 0, none⟩)] 35)).alloc (.cells #[.int .i64 s1, .bool b1, .int .i64 s2, .bool b2] 32)) :
    W.heap.size = w.heap.size + 1 + 1 ∧ Below w.heap.size w W ∧ Ptrs W w.heap.size 0 2 (two p q) ∧ Terms W 2 (two p q) (two s1 s2) (two b1 b2) ∧ Subs W (w.heap.size + 1) 0 2 (two s1 s2) (two b1 b2) := by
  subst hW
  have hb := below_allocS (below_allocS (Below.refl w.heap.size w) (.cells #[.pointer (some ⟨p, 0, none⟩), .pointer (some ⟨q, 0, none⟩)] 35)) (.cells #[.int .i64 s1, .bool b1, .int .i64 s2, .bool b2] 32)
  refine ⟨by simp, hb, ⟨by simp <;> omega, ?_⟩, ?_, ⟨by simp <;> omega, ?_⟩⟩
  · intro i hi
    have : i = 0 ∨ i = 1 := by omega
    rcases this with rfl | rfl <;> simp [two, go_sem]
  · intro i hi
    have : i = 0 ∨ i = 1 := by omega
    rcases this with rfl | rfl
    · exact h1.next hb
    · exact h2.next hb
  · intro i hi
    have : i = 0 ∨ i = 1 := by omega
    rcases this with rfl | rfl <;> simp [two, go_sem]

set_option maxHeartbeats 2000000 in
set_option maxRecDepth 100000 in
theorem cut_mid (b off n cap : Nat) (c : Nat) (S : Nat → Int) (B : Nat → Bool) (hn1 : 2 ≤ n) (hn : n ≤ 65536) (hc0 : 2 ≤ c) (hc1 : c + 2 ≤ n) (hcap : n ≤ cap) (w : World) (hs : Subs w b off n S B) :
    Calls Try.prog 5 #[.slice (some ⟨b, off, none⟩) n cap, .int .i64 (c : Int)] w fun e w' => e = .returned (.bool true) ∧ Below w.heap.size w w' := by
  have HS := hide hs.2
  go_enter Try.func5, Try.ntmps5
  go_wp2_with (go_at_call 10; refine (bytes5_any _ n cap _ hn _).mono ?_; rintro e w' ⟨rfl, hw⟩; obtain rfl := hw.symm)
  go_loop [6] (fun i => ∃ k : Nat, k ≤ n ∧ i = .int .i64 k ∧ ∀ j, j < k → 0 ≤ S j ∧ S j ≤ 131073) (fun i => n - (intOf i).toNat)
  case atStart => exact ⟨0, Nat.zero_le _, rfl, fun j hj => absurd hj (Nat.not_lt_zero _)⟩
  case round =>
    obtain ⟨k, hk, rfl, hall⟩ := hrel
    have HA := hide hall
    clear hall
    by_cases hlt : k < n
    · obtain ⟨c0, c1⟩ := HS.out k hlt
      by_cases h1 : S k < 0
      · go_wp2
        go_ret
        exact ⟨rfl, Below.refl _ _⟩
      · by_cases h2 : 131073 < S k
        · go_wp2
          go_ret
          exact ⟨rfl, Below.refl _ _⟩
        · go_wp2
          go_round
          case rel => exact ⟨k + 1, by omega, by go_num, fun j hj => by
            by_cases e : j = k
            · subst e; omega
            · exact HA.out j (by omega)⟩
          case measure => simp [intOf]; omega
    · obtain rfl : k = n := by omega
      clear HS
      go_wp2_with fail
      refine (terms_any b off k cap S B hn w hs).mono ?_
      rintro e w1 ⟨rfl, hb, ps, hrow, hT⟩
      have hP := ptrs_of_row hrow
      have hB := hb
      have hs1 := hs.next hb
      clear hrow hb
      go_wp2_with fail
      refine (zzChoice_any w.heap.size 0 k k ps S B (by omega) hn HA.out w1 hP hT).mono ?_
      rintro e w2 ⟨rfl, hb, hF⟩
      replace hB := Below.transS hB hb
      replace hP := hP.next hb
      replace hT := hT.next hb
      replace hs1 := hs1.next hb
      clear hb
      go_wp2_with fail
      refine (choiceIs_any w1.heap.size w.heap.size 0 k k b off cap ps S B hn HA.out w2 hF hP hs1).mono ?_
      rintro e w3 ⟨rfl, hb⟩
      replace hB := Below.transS hB hb
      replace hP := hP.next hb
      replace hT := hT.next hb
      replace hs1 := hs1.next hb
      replace hF := hF.next hb
      clear hb
      have HAl : ∀ i, i < c → 0 ≤ S i ∧ S i ≤ 131073 := fun i hi => HA.out i (by omega)
      have HAr : ∀ i, i < k - c → 0 ≤ S (c + i) ∧ S (c + i) ≤ 131073 := fun i hi => HA.out (c + i) (by omega)
      have Hl := hide HAl
      have Hr := hide HAr
      clear HAl HAr
      go_wp2_with fail
      refine (copy_any w.heap.size 0 c k ps (by omega) w3 (hP.take c (by omega))).mono ?_
      rintro e w4 ⟨rfl, hb, hL⟩
      replace hB := Below.transS hB hb
      replace hP := hP.next hb
      replace hT := hT.next hb
      replace hs1 := hs1.next hb
      replace hF := hF.next hb
      have hPl := ptrs_of_row hL
      clear hL hb
      go_wp2_with fail
      go_fit (copy_any w.heap.size c (k - c) (k - c) (fun i => ps (c + i)) (by omega) w4 (by simpa using hP.sub c (k - c) (by omega)))
      rintro e w5 ⟨rfl, hb, hR⟩
      replace hB := Below.transS hB hb
      replace hP := hP.next hb
      replace hT := hT.next hb
      replace hs1 := hs1.next hb
      replace hF := hF.next hb
      replace hPl := hPl.next hb
      have hPr := ptrs_of_row hR
      clear hR hb
      go_wp2_with fail
      refine (zzChoice_any w3.heap.size 0 c c ps S B (by omega) (by omega) Hl.out w5 hPl (hT.take c (by omega))).mono ?_
      rintro e w6 ⟨rfl, hb, hCl⟩
      replace hB := Below.transS hB hb
      replace hP := hP.next hb
      replace hT := hT.next hb
      replace hs1 := hs1.next hb
      replace hF := hF.next hb
      replace hPl := hPl.next hb
      replace hPr := hPr.next hb
      clear hb
      go_wp2_with fail
      refine (zzChoice_any w4.heap.size 0 (k - c) (k - c) (fun i => ps (c + i)) (fun i => S (c + i)) (fun i => B (c + i)) (by omega) (by omega) Hr.out w6 hPr (hT.sub c (k - c) (by omega))).mono ?_
      rintro e w7 ⟨rfl, hb, hCr⟩
      replace hB := Below.transS hB hb
      replace hP := hP.next hb
      replace hT := hT.next hb
      replace hs1 := hs1.next hb
      replace hF := hF.next hb
      replace hPl := hPl.next hb
      replace hPr := hPr.next hb
      replace hCl := hCl.next hb
      clear hb
      go_wp2_with fail
      go_fit (choiceIs_any w5.heap.size w3.heap.size 0 c c b off cap ps S B (by omega) Hl.out w7 hCl hPl (hs1.take c (by omega)))
      rintro e w8 ⟨rfl, hb⟩
      replace hB := Below.transS hB hb
      replace hP := hP.next hb
      replace hT := hT.next hb
      replace hs1 := hs1.next hb
      replace hF := hF.next hb
      replace hPl := hPl.next hb
      replace hPr := hPr.next hb
      replace hCl := hCl.next hb
      replace hCr := hCr.next hb
      clear hb
      go_wp2_with fail
      go_fit (choiceIs_any w6.heap.size w4.heap.size 0 (k - c) (k - c) b (off + c * 2) (cap - c) (fun i => ps (c + i)) (fun i => S (c + i)) (fun i => B (c + i)) (by omega) Hr.out w8 hCr hPr (hs1.sub c (k - c) (by omega)))
      rintro e w9 ⟨rfl, hb⟩
      replace hB := Below.transS hB hb
      replace hF := hF.next hb
      replace hCl := hCl.next hb
      replace hCr := hCr.next hb
      clear hb hP hT hs1 hPl hPr
      go_wp2_with fail
      have hb1 := below_allocS (Below.refl w9.heap.size w9) (.cells #[.pointer (some ⟨w5.heap.size, 0, none⟩), .pointer (some ⟨w6.heap.size, 0, none⟩)] 35)
      have l6 := (hCl.next hb1).2.2.2.1
      have l3 := (hCl.next hb1).2.2.1
      have r6 := (hCr.next hb1).2.2.2.1
      have r3 := (hCr.next hb1).2.2.1
      clear hb1
      go_fit (termSize_any _ _ _ l6)
      rintro e w' ⟨rfl, hw⟩
      obtain rfl := hw.symm
      go_wp2_with fail
      go_fit (termBack_any _ _ _ l3)
      rintro e w' ⟨rfl, hw⟩
      obtain rfl := hw.symm
      go_wp2_with fail
      go_fit (termSize_any _ _ _ r6)
      rintro e w' ⟨rfl, hw⟩
      obtain rfl := hw.symm
      go_wp2_with fail
      go_fit (termBack_any _ _ _ r3)
      rintro e w' ⟨rfl, hw⟩
      obtain rfl := hw.symm
      clear l6 l3 r6 r3
      go_wp2_with fail
      obtain ⟨hsz, hb, hPp, hTp, hSp⟩ := pair_facts w9 w5.heap.size w6.heap.size _ _ _ _ hCl.term hCr.term _ rfl
      have HSZ := hide hsz
      clear hsz
      replace hB := Below.transS hB hb
      replace hF := hF.next hb
      clear hb hCl hCr
      have Hp : Hid (∀ i, i < 2 → 0 ≤ two (csz S c) (csz (fun i => S (c + i)) (k - c)) i ∧ two (csz S c) (csz (fun i => S (c + i)) (k - c)) i ≤ 131073) := by
        intro i hi
        have : i = 0 ∨ i = 1 := by omega
        rcases this with rfl | rfl
        · exact csz_bd S c (by omega) Hl.out
        · exact csz_bd _ (k - c) (by omega) Hr.out
      go_fit (zzChoice_any w9.heap.size 0 2 2 (two w5.heap.size w6.heap.size) _ _ (by omega) (by omega) Hp.out _ hPp hTp)
      rintro e w10 ⟨rfl, hb, hN⟩
      rw [HSZ.out] at hN
      replace hB := Below.transS hB hb
      replace hF := hF.next hb
      replace hPp := hPp.next hb
      replace hSp := hSp.next hb
      clear hb hTp
      go_wp2_with fail
      go_fit (choiceIs_any (w9.heap.size + 1 + 1) w9.heap.size 0 2 2 (w9.heap.size + 1) 0 2 (two w5.heap.size w6.heap.size) _ _ (by omega) Hp.out w10 hN hPp hSp)
      rintro e w11 ⟨rfl, hb⟩
      replace hB := Below.transS hB hb
      replace hF := hF.next hb
      replace hN := hN.next hb
      clear hb hPp hSp
      rw [csz_nest S k c (by omega) (by omega) HA.out, anyTo_nest B k c (by omega)] at hN
      obtain ⟨_, _, f3, f6, _⟩ := hF
      obtain ⟨_, _, n3, n6, _⟩ := hN
      go_wp2_with fail
      go_fit (termSize_any _ _ _ n6)
      rintro e w' ⟨rfl, hw⟩
      obtain rfl := hw.symm
      go_wp2_with fail
      go_fit (termSize_any _ _ _ f6)
      rintro e w' ⟨rfl, hw⟩
      obtain rfl := hw.symm
      go_wp2_with fail
      go_fit (termBack_any _ _ _ n3)
      rintro e w' ⟨rfl, hw⟩
      obtain rfl := hw.symm
      go_wp2_with fail
      go_fit (termBack_any _ _ _ f3)
      rintro e w' ⟨rfl, hw⟩
      obtain rfl := hw.symm
      go_wp2
      go_ret
      exact ⟨rfl, hB⟩

end Go.Proofs.Qxb6617339a.Ch
