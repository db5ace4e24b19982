import Derived.Test.Qxb6617417aSn2
namespace Go.Proofs.Qxb6617417a.Sn
open Go.RowKit Go.Deep Go.Maps

/-- A slice of n integers from cell off of block g on. -/
def Sl (kd : IntKind) (w : World) (g off n : Nat) (z : Nat → Int) : Prop := g < w.heap.size ∧ ∀ i, i < n → w.cell? ⟨g, off + i, none⟩ = some (.int kd (z i))
theorem Sl.next {kd : IntKind} {W w1 : World} {g off n : Nat} {z : Nat → Int} (h : Sl kd W g off n z) (hb : Below W.heap.size W w1) : Sl kd w1 g off n z :=
  ⟨Nat.lt_of_lt_of_le h.1 hb.size, fun i hi => by rw [bcell hb _ _ h.1]; exact h.2 i hi⟩

/-- The list at block L holds exactly the snapshots K, in this order, with the reader counts R. -/
def Rep (w : World) (L n : Nat) (K R : Nat → Int) : Prop :=
  ∃ (b m : Nat) (o nw : Int) (f : Int → Option Nat) (p : Nat → Nat) (O N : Nat → Int), w.rowIs L 43 3 (lf b o nw) ∧ MapIs w b m n f ∧
    (∀ i, i < n → f (K i) = some (p i) ∧ w.rowIs (p i) 46 3 (ef (R i) (O i) (N i)) ∧ (Lit.int .u64 (K i)).wf = true) ∧
    (0 < n → o = K 0 ∧ nw = K (n - 1)) ∧ (∀ i, 0 < i → i < n → O i = K (i - 1)) ∧ (∀ i, i + 1 < n → N i = K (i + 1))

set_option maxHeartbeats 1000000 in
set_option maxRecDepth 100000 in
theorem rep_zero (L : Nat) (a a' : Option Addr) (c c' : Nat) (K R : Nat → Int) (w : World) (h : Rep w L 0 K R) :
    Calls Try.prog 13 #[.pointer (some ⟨L, 0, none⟩), .slice a 0 c, .slice a' 0 c'] w fun e w' => e = .returned (.bool true) ∧ Below w.heap.size w w' := by
  obtain ⟨b, m, o, nw, f, p, O, N, hl, hm, _⟩ := h
  go_enter Try.func13, Try.ntmps13
  go_wp2_with (go_at_call 26; refine (len_any L b m 0 f o nw _ hl hm).mono ?_; rintro e w' ⟨rfl, hw⟩; obtain rfl := hw.symm)
  refine wp_loop_rounds 1 ?_
  rw [rounds_succ]
  go_wp2
  go_ret
  exact ⟨rfl, Below.refl _ _⟩

set_option maxHeartbeats 2000000 in
set_option maxRecDepth 100000 in
theorem rep_yes (L n gk ok ck gr orr cr : Nat) (K R : Nat → Int) (hn1 : 1 ≤ n) (hn : n ≤ 40000) (w : World) (h : Rep w L n K R) (hk : Sl .u64 w gk ok n K) (hr : Sl .i64 w gr orr n R) :
    Calls Try.prog 13 #[.pointer (some ⟨L, 0, none⟩), .slice (some ⟨gk, ok, none⟩) n ck, .slice (some ⟨gr, orr, none⟩) n cr] w fun e w' => e = .returned (.bool true) ∧ Below w.heap.size w w' := by
  obtain ⟨b, m, o, nw, f, p, O, N, hl, hm, hE, hends, hO, hN⟩ := h
  obtain ⟨rfl, rfl⟩ := hends hn1
  have HE := hide hE
  have HO := hide hO
  have HN := hide hN
  have HK := hide hk
  have HR := hide hr
  clear hE hO hN hk hr hends
  go_enter Try.func13, Try.ntmps13
  go_wp2_with (go_at_call 26; refine (len_any L b m n f _ _ _ hl hm).mono ?_; rintro e w' ⟨rfl, hw⟩; obtain rfl := hw.symm)
  go_fit (ends_any L b _ _ _ hl)
  rintro e w1 ⟨rfl, hB1⟩
  have k0 := (HK.out.next hB1).2 0 (by omega)
  have kl := (HK.out.next hB1).2 (n - 1) (by omega)
  rw [Nat.add_zero] at k0
  go_wp2
  clear k0 kl
  go_loopw [10] (fun i wr => ∃ k : Nat, k ≤ n ∧ i = .int .i64 k ∧ Below w.heap.size w wr) (fun i _ => n - (intOf i).toNat)
  case atStart => exact ⟨0, Nat.zero_le _, rfl, hB1⟩
  case round =>
    clear hB1
    obtain ⟨k, hk, rfl, hB⟩ := hrel
    by_cases hlt : k < n
    · obtain ⟨hfk, he, hwf⟩ := HE.out k hlt
      have c0 := (HK.out.next hB).2 k hlt
      have hl' := row_next hl hB
      have hm' := hm.next hB
      replace he := row_next he hB
      by_cases h1 : 0 < k
      all_goals
        by_cases h2 : k + 1 < n
        all_goals
          first | rw [HO.out k h1 hlt] at he | skip
          first | rw [HN.out k h2] at he | skip
          have G := hide (get_any L b m n (p k) f (K k) _ _ _ _ _ hwf wr hl' hm' hfk he)
          go_wp2_with (go_at_call 28; refine G.out.mono ?_; rintro e w2 ⟨rfl, hb2⟩; have q0 := ((HR.out.next hB).next hb2).2 k hlt; have q1 := ((HK.out.next hB).next hb2).2 (k - 1) (by omega); have q2 := fun h => ((HK.out.next hB).next hb2).2 (k + 1) h; replace hB := below_transS hB hb2)
          go_roundw
          case rel => exact ⟨k + 1, by omega, by go_num, hB⟩
          case measure => simp [intOf]; omega
    · go_wp2
      go_ret
      exact ⟨rfl, hB⟩
end Go.Proofs.Qxb6617417a.Sn
