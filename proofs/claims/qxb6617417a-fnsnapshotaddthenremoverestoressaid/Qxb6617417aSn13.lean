import Derived.Test.Qxb6617417aSn12
namespace Go.Proofs.Qxb6617417a.Sn
open Go.RowKit Go.Deep Go.Maps

set_option maxHeartbeats 1000000 in
theorem rem_hit (b m n i : Nat) (o nw : Int) (f : Int → Option Nat) (K R O N : Nat → Int) (p : Nat → Nat) (hi : i < n) (hk : (Lit.int .u64 (K i)).wf = true) (r0 : 2 ≤ R i) (r1 : R i ≤ 9223372036854775807) (w : World) (h : St w b m n o nw f K R O N p) :
    Calls Try.prog 29 #[.pointer (some ⟨b + 1, 0, none⟩), .int .u64 (K i)] w fun e w' => e = .returned (.tuple #[]) ∧ Below b w w' ∧ St w' b m n o nw f K (upd R i (R i - 1)) O N p := by
  have H := hide h
  obtain ⟨h1, h2, h3, h4⟩ := h
  obtain ⟨y0, y1, y2⟩ := lf_cells h1
  obtain ⟨g1, g2, g3⟩ := h3 i hi
  obtain ⟨z0, z1, z2⟩ := ef_cells g3
  have fz := g3.frozen 0
  have hlook := h2.look hk
  rw [g1] at hlook
  simp only [pV] at hlook
  have hc0 := fun x => (lf_cells (h1.setOther (a := ⟨p i, 0, none⟩) (by show b + 1 ≠ p i; omega) (.int .i64 x))).1
  have hs0 := fun x => (ef_cells (ef_set0 (x := x) g3)).1
  clear h1 h2 h3 h4 g1 g3
  go_enter Try.func29, Try.ntmps29
  go_wp2
  exact bodyPost_ret (v := .tuple #[]) (by simp [results, Try.results29, go_sem]) rfl ⟨rfl, (Below.refl _ _).setCell (by show b ≤ p i; omega) _, H.out.hit hi _⟩

theorem rem_facts (w w2 : World) (b m n : Nat) (o nw : Int) (f : Int → Option Nat) (K R O N : Nat → Int) (p : Nat → Nat) (h : St w b m (n + 1) o nw f K R O N p)
    (hM2 : MapIs w2 b m n (updf f (K n) none)) (ht2 : (w.setCell ⟨p n, 0, none⟩ (.int .i64 0)).mapTurned w2 b) :
    Below b w w2 ∧ w2.rowIs (p n) 46 3 (ef 0 (O n) (N n)) ∧ St w2 b m n o nw (updf f (K n) none) K R O N p := by
  obtain ⟨h1, h2, h3, h4⟩ := h
  obtain ⟨g1, g2, g3⟩ := h3 n (by omega)
  have hsz : (w.setCell ⟨p n, 0, none⟩ (.int .i64 0)).heap.size = w.heap.size := by simp [World.setCell]
  have hl1 := (h1.setOther (a := ⟨p n, 0, none⟩) (by show b + 1 ≠ p n; omega) (.int .i64 0)).of_block (turned_block ht2 (by omega))
  have he1 := (ef_set0 (x := 0) g3).of_block (turned_block ht2 (by omega))
  refine ⟨turned_below ht2 ((Below.refl b w).setCell (p := ⟨p n, 0, none⟩) (by show b ≤ p n; omega) (.int .i64 0)) (by rw [hsz]; have := h2.lt; omega) (Nat.le_refl _), he1, hl1, hM2, fun i hi => ?_, fun i j hi hj e => h4 i j (by omega) (by omega) e⟩
  obtain ⟨k1, k2, k3⟩ := h3 i (by omega)
  have hne : p i ≠ p n := fun e => by have := h4 i n (by omega) (by omega) e; omega
  have hK : K i ≠ K n := fun e => by rw [e, g1] at k1; exact hne (Option.some.inj k1).symm
  exact ⟨by simp [updf, hK, k1], k2, (k3.setOther (a := ⟨p n, 0, none⟩) hne (.int .i64 0)).of_block (turned_block ht2 (by omega))⟩
theorem St.newest {w : World} {b m n : Nat} {o nw : Int} {f : Int → Option Nat} {K R O N : Nat → Int} {p : Nat → Nat} (h : St w b m n o nw f K R O N p) (x : Int) :
    St (w.setCell ⟨b + 1, 2, none⟩ (.int .u64 x)) b m n o x f K R O N p := by
  obtain ⟨h1, h2, h3, h4⟩ := h
  exact ⟨lf_set2 h1, mapIs_setCell h2 (a := ⟨b + 1, 2, none⟩) (by show b ≠ b + 1; omega) _, fun i hi => ⟨(h3 i hi).1, (h3 i hi).2.1, (h3 i hi).2.2.setOther (a := ⟨b + 1, 2, none⟩) (by show p i ≠ b + 1; have := (h3 i hi).2.1; omega) _⟩, h4⟩

set_option maxHeartbeats 1000000 in
set_option maxRecDepth 100000 in
theorem rem_last (b m n : Nat) (o ts x : Int) (f : Int → Option Nat) (K R O N : Nat → Int) (p : Nat → Nat) (hn1 : 1 ≤ n) (hn : n ≤ 32768) (hK : K n = ts) (hk : (Lit.int .u64 ts).wf = true) (hr : R n = 1) (hO : O n = x) (ho : o ≠ ts) (w : World) (h : St w b m (n + 1) o ts f K R O N p) :
    Calls Try.prog 29 #[.pointer (some ⟨b + 1, 0, none⟩), .int .u64 ts] w fun e w' => e = .returned (.tuple #[]) ∧ Below b w w' ∧ St w' b m n o x (updf f ts none) K R O N p := by
  subst hK hO
  have H := hide h
  obtain ⟨h1, h2, h3, h4⟩ := h
  obtain ⟨y0, y1, y2⟩ := lf_cells h1
  obtain ⟨g1, g2, g3⟩ := h3 n (by omega)
  rw [hr] at g3
  obtain ⟨z0, z1, z2⟩ := ef_cells g3
  have fz := g3.frozen 0
  have hlook := h2.look hk
  rw [g1] at hlook
  simp only [pV] at hlook
  have hl1 := h1.setOther (a := ⟨p n, 0, none⟩) (by show b + 1 ≠ p n; omega) (.int .i64 0)
  obtain ⟨c0, c1, c2⟩ := lf_cells hl1
  obtain ⟨d0, d1, d2⟩ := ef_cells (ef_set0 (x := 0) g3)
  obtain ⟨w2, hrun, hM2, ht2⟩ := (mapIs_setCell h2 (a := ⟨p n, 0, none⟩) (by show b ≠ p n; omega) (.int .i64 0)).drop hk 0
  rw [g1] at hM2
  simp only [Option.isSome_some, if_true, Nat.add_sub_cancel] at hM2
  obtain ⟨f1, f2, f3⟩ := rem_facts w w2 b m n o (K n) f K R O N p H.out hM2 ht2
  obtain ⟨v0, v1, v2⟩ := lf_cells f3.1
  obtain ⟨u0, u1, u2⟩ := ef_cells f2
  have fl := f3.1.frozen 2
  have hlen := fun ty => f3.2.1.len ty
  have F1 := hide f1
  have F3 := hide f3
  have q1 : ((n : Int) == 0) = false := by rw [beq_eq_false_iff_ne]; omega
  have q2 : (K n == o) = false := by rw [beq_eq_false_iff_ne]; exact fun e => ho e.symm
  have hbl := f3.1.lt
  clear h1 h2 h3 h4 g1 g3 hl1 f1 f2 f3 hM2 ht2 ho
  go_enter Try.func29, Try.ntmps29
  go_wp2
  go_end0
  exact ⟨rfl, F1.out.setCell (by show b ≤ b + 1; omega) _, F3.out.newest _⟩

set_option maxHeartbeats 1000000 in
set_option maxRecDepth 100000 in
theorem rem_only (b m : Nat) (o nw ts : Int) (f : Int → Option Nat) (K R O N : Nat → Int) (p : Nat → Nat) (hK : K 0 = ts) (hk : (Lit.int .u64 ts).wf = true) (hr : R 0 = 1) (w : World) (h : St w b m 1 o nw f K R O N p) :
    Calls Try.prog 29 #[.pointer (some ⟨b + 1, 0, none⟩), .int .u64 ts] w fun e w' => e = .returned (.tuple #[]) ∧ Below b w w' ∧ St w' b m 0 o nw (updf f ts none) K R O N p := by
  subst hK
  have H := hide h
  obtain ⟨h1, h2, h3, h4⟩ := h
  obtain ⟨y0, y1, y2⟩ := lf_cells h1
  obtain ⟨g1, g2, g3⟩ := h3 0 (by omega)
  rw [hr] at g3
  obtain ⟨z0, z1, z2⟩ := ef_cells g3
  have fz := g3.frozen 0
  have hlook := h2.look hk
  rw [g1] at hlook
  simp only [pV] at hlook
  have hl1 := h1.setOther (a := ⟨p 0, 0, none⟩) (by show b + 1 ≠ p 0; omega) (.int .i64 0)
  obtain ⟨c0, c1, c2⟩ := lf_cells hl1
  obtain ⟨d0, d1, d2⟩ := ef_cells (ef_set0 (x := 0) g3)
  obtain ⟨w2, hrun, hM2, ht2⟩ := (mapIs_setCell h2 (a := ⟨p 0, 0, none⟩) (by show b ≠ p 0; omega) (.int .i64 0)).drop hk 0
  rw [g1] at hM2
  simp only [Option.isSome_some, if_true, Nat.sub_self] at hM2
  obtain ⟨f1, f2, f3⟩ := rem_facts w w2 b m 0 o nw f K R O N p H.out hM2 ht2
  obtain ⟨v0, v1, v2⟩ := lf_cells f3.1
  have hlen := fun ty => f3.2.1.len ty
  have F1 := hide f1
  have F3 := hide f3
  clear h1 h2 h3 h4 g1 g3 hl1 f1 f2 f3 hM2 ht2
  go_enter Try.func29, Try.ntmps29
  go_wp2
  go_end0
  exact ⟨rfl, F1.out, F3.out⟩
end Go.Proofs.Qxb6617417a.Sn
