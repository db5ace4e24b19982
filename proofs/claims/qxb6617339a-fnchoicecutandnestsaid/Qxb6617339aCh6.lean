import Derived.Test.Qxb6617339aCh5
namespace Go.Proofs.Qxb6617339a.Ch
open Go.RowKit Go.Deep

set_option maxHeartbeats 2000000 in
set_option maxRecDepth 100000 in
theorem cut_short (b off n cap : Nat) (x : Int) (S : Nat → Int) (B : Nat → Bool) (hn1 : 2 ≤ n) (hn : n ≤ 65536) (hx : x < 2) (w : World) (hs : Subs w b off n S B) :
    Calls Try.prog 5 #[.slice (some ⟨b, off, none⟩) n cap, .int .i64 x] w fun e w' => e = .returned (.bool true) ∧ Below w.heap.size w w' := by
  have HS := hide hs.2
  go_enter Try.func5, Try.ntmps5
  go_wp2_with (go_at_call 10; refine (bytes5_any _ n cap _ hn _).mono ?_; rintro e w' ⟨rfl, hw⟩; obtain rfl := hw.symm)
  go_loop [6] (fun i => ∃ k : Nat, k ≤ n ∧ i = .int .i64 k ∧ ∀ j, j < k → 0 ≤ S j ∧ S j ≤ 131073) (fun i => n - (intOf i).toNat)
  case atStart => exact ⟨0, Nat.zero_le _, rfl, fun j hj => absurd hj (Nat.not_lt_zero _)⟩
  case round =>
    obtain ⟨k, hk, rfl, hall⟩ := hrel
    have HA := hide hall
    clear hall
    by_cases hlt : k < n
    · obtain ⟨c0, c1⟩ := HS.out k hlt
      by_cases h1 : S k < 0
      · go_wp2
        go_ret
        exact ⟨rfl, Below.refl _ _⟩
      · by_cases h2 : 131073 < S k
        · go_wp2
          go_ret
          exact ⟨rfl, Below.refl _ _⟩
        · go_wp2
          go_round
          case rel => exact ⟨k + 1, by omega, by go_num, fun j hj => by
            by_cases e : j = k
            · subst e; omega
            · exact HA.out j (by omega)⟩
          case measure => simp [intOf]; omega
    · obtain rfl : k = n := by omega
      clear HS
      go_wp2_with fail
      refine (terms_any b off k cap S B hn w hs).mono ?_
      rintro e w1 ⟨rfl, hb, ps, hrow, hT⟩
      have hP := ptrs_of_row hrow
      have hB := hb
      have hs1 := hs.next hb
      clear hrow hb
      go_wp2_with fail
      refine (zzChoice_any w.heap.size 0 k k ps S B (by omega) hn HA.out w1 hP hT).mono ?_
      rintro e w2 ⟨rfl, hb, hF⟩
      replace hB := Below.transS hB hb
      replace hP := hP.next hb
      replace hT := hT.next hb
      replace hs1 := hs1.next hb
      clear hb
      go_wp2_with fail
      refine (choiceIs_any w1.heap.size w.heap.size 0 k k b off cap ps S B hn HA.out w2 hF hP hs1).mono ?_
      rintro e w3 ⟨rfl, hb⟩
      replace hB := Below.transS hB hb
      replace hP := hP.next hb
      replace hT := hT.next hb
      replace hs1 := hs1.next hb
      replace hF := hF.next hb
      clear hb
      go_wp2
      go_ret
      exact ⟨rfl, hB⟩

set_option maxHeartbeats 2000000 in
set_option maxRecDepth 100000 in
theorem cut_long (b off n cap : Nat) (x : Int) (S : Nat → Int) (B : Nat → Bool) (hn1 : 2 ≤ n) (hn : n ≤ 65536) (hx0 : 2 ≤ x) (hx : (n : Int) - 2 < x) (w : World) (hs : Subs w b off n S B) :
    Calls Try.prog 5 #[.slice (some ⟨b, off, none⟩) n cap, .int .i64 x] w fun e w' => e = .returned (.bool true) ∧ Below w.heap.size w w' := by
  have HS := hide hs.2
  go_enter Try.func5, Try.ntmps5
  go_wp2_with (go_at_call 10; refine (bytes5_any _ n cap _ hn _).mono ?_; rintro e w' ⟨rfl, hw⟩; obtain rfl := hw.symm)
  go_loop [6] (fun i => ∃ k : Nat, k ≤ n ∧ i = .int .i64 k ∧ ∀ j, j < k → 0 ≤ S j ∧ S j ≤ 131073) (fun i => n - (intOf i).toNat)
  case atStart => exact ⟨0, Nat.zero_le _, rfl, fun j hj => absurd hj (Nat.not_lt_zero _)⟩
  case round =>
    obtain ⟨k, hk, rfl, hall⟩ := hrel
    have HA := hide hall
    clear hall
    by_cases hlt : k < n
    · obtain ⟨c0, c1⟩ := HS.out k hlt
      by_cases h1 : S k < 0
      · go_wp2
        go_ret
        exact ⟨rfl, Below.refl _ _⟩
      · by_cases h2 : 131073 < S k
        · go_wp2
          go_ret
          exact ⟨rfl, Below.refl _ _⟩
        · go_wp2
          go_round
          case rel => exact ⟨k + 1, by omega, by go_num, fun j hj => by
            by_cases e : j = k
            · subst e; omega
            · exact HA.out j (by omega)⟩
          case measure => simp [intOf]; omega
    · obtain rfl : k = n := by omega
      clear HS
      go_wp2_with fail
      refine (terms_any b off k cap S B hn w hs).mono ?_
      rintro e w1 ⟨rfl, hb, ps, hrow, hT⟩
      have hP := ptrs_of_row hrow
      have hB := hb
      have hs1 := hs.next hb
      clear hrow hb
      go_wp2_with fail
      refine (zzChoice_any w.heap.size 0 k k ps S B (by omega) hn HA.out w1 hP hT).mono ?_
      rintro e w2 ⟨rfl, hb, hF⟩
      replace hB := Below.transS hB hb
      replace hP := hP.next hb
      replace hT := hT.next hb
      replace hs1 := hs1.next hb
      clear hb
      go_wp2_with fail
      refine (choiceIs_any w1.heap.size w.heap.size 0 k k b off cap ps S B hn HA.out w2 hF hP hs1).mono ?_
      rintro e w3 ⟨rfl, hb⟩
      replace hB := Below.transS hB hb
      replace hP := hP.next hb
      replace hT := hT.next hb
      replace hs1 := hs1.next hb
      replace hF := hF.next hb
      clear hb
      go_wp2
      go_ret
      exact ⟨rfl, hB⟩

end Go.Proofs.Qxb6617339a.Ch
