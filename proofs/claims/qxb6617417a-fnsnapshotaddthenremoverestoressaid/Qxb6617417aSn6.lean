import Derived.Test.Qxb6617417aSn5
namespace Go.Proofs.Qxb6617417a.Sn
open Go.RowKit Go.Deep Go.Maps

def upd {α : Type} (f : Nat → α) (i : Nat) (v : α) (k : Nat) : α := if k = i then v else f k

/-- The snapshot list that ZZMakeSnapshotList lays at block b: the map at b, the list at b + 1, the entries p behind. -/
def St (w : World) (b m n : Nat) (o nw : Int) (f : Int → Option Nat) (K R O N : Nat → Int) (p : Nat → Nat) : Prop :=
  w.rowIs (b + 1) 43 3 (lf b o nw) ∧ MapIs w b m n f ∧ (∀ i, i < n → f (K i) = some (p i) ∧ b + 2 ≤ p i ∧ w.rowIs (p i) 46 3 (ef (R i) (O i) (N i))) ∧ (∀ i j, i < n → j < n → p i = p j → i = j)

theorem mapIs_setCell {w : World} {b m n : Nat} {f : Int → Option Nat} (h : MapIs w b m n f) {a : Addr} (ha : b ≠ a.block) (v : Value) : MapIs (w.setCell a v) b m n f := h.block (Below.heap_setCell _ _ _ _ ha)

theorem St.hit {w : World} {b m n : Nat} {o nw : Int} {f : Int → Option Nat} {K R O N : Nat → Int} {p : Nat → Nat} (h : St w b m n o nw f K R O N p) {i : Nat} (hi : i < n) (x : Int) :
    St (w.setCell ⟨p i, 0, none⟩ (.int .i64 x)) b m n o nw f K (upd R i x) O N p := by
  obtain ⟨h1, h2, h3, h4⟩ := h
  have hp := (h3 i hi).2.1
  refine ⟨h1.setOther (a := ⟨p i, 0, none⟩) (by show b + 1 ≠ p i; omega) _, mapIs_setCell h2 (a := ⟨p i, 0, none⟩) (by show b ≠ p i; omega) _, fun j hj => ?_, h4⟩
  obtain ⟨g1, g2, g3⟩ := h3 j hj
  refine ⟨g1, g2, ?_⟩
  by_cases e : j = i
  · subst e
    have := ef_set0 (x := x) g3
    simpa [upd] using this
  · have hne : p j ≠ p i := fun h => e (h4 j i hj hi h)
    have := g3.setOther (a := ⟨p i, 0, none⟩) hne (.int .i64 x)
    simpa [upd, e] using this

set_option maxHeartbeats 1000000 in
theorem add_hit (b m n i : Nat) (o nw : Int) (f : Int → Option Nat) (K R O N : Nat → Int) (p : Nat → Nat) (hi : i < n) (hk : (Lit.int .u64 (K i)).wf = true) (r0 : 1 ≤ R i) (r1 : R i < 9223372036854775807) (w : World) (h : St w b m n o nw f K R O N p) :
    Calls Try.prog 25 #[.pointer (some ⟨b + 1, 0, none⟩), .int .u64 (K i)] w fun e w' => e = .returned (.tuple #[]) ∧ Below b w w' ∧ St w' b m n o nw f K (upd R i (R i + 1)) O N p := by
  have H := hide h
  obtain ⟨h1, h2, h3, h4⟩ := h
  obtain ⟨y0, y1, y2⟩ := lf_cells h1
  obtain ⟨g1, g2, g3⟩ := h3 i hi
  obtain ⟨z0, z1, z2⟩ := ef_cells g3
  have fz := g3.frozen 0
  have hlook := h2.look hk
  rw [g1] at hlook
  simp only [pV] at hlook
  clear h1 h2 h3 h4 g1 g3
  go_enter Try.func25, Try.ntmps25
  go_wp2
  exact bodyPost_ret (v := .tuple #[]) (by simp [results, Try.results25, go_sem]) rfl ⟨rfl, (Below.refl _ _).setCell (by show b ≤ p i; omega) _, H.out.hit hi _⟩

theorem add_new_facts (w w2 : World) (b m n : Nat) (o ts : Int) (f : Int → Option Nat) (K R O N : Nat → Int) (p : Nat → Nat) (hn1 : 1 ≤ n) (hf : f ts = none) (h : St w b m n o (K (n - 1)) f K R O N p)
    (hM2 : MapIs w2 b (m + 1) (n + 1) (updf f ts (some w.heap.size)))
    (ht2 : ((w.setCell ⟨p (n - 1), 2, none⟩ (.int .u64 ts)).alloc (.cells #[.int .i64 1, .int .u64 (K (n - 1)), .int .u64 0] 46)).drew.drew.mapTurned w2 b) :
    w2.rowIs (b + 1) 43 3 (lf b o (K (n - 1))) ∧ Below b w (w2.setCell ⟨b + 1, 2, none⟩ (.int .u64 ts)) ∧
      St (w2.setCell ⟨b + 1, 2, none⟩ (.int .u64 ts)) b (m + 1) (n + 1) o ts (updf f ts (some w.heap.size)) (upd K n ts) (upd R n 1) (upd O n (K (n - 1))) (upd (upd N (n - 1) ts) n 0) (upd p n w.heap.size) := by
  obtain ⟨h1, h2, h3, h4⟩ := h
  obtain ⟨g1, g2, g3⟩ := h3 (n - 1) (by omega)
  have hsz : (w.setCell ⟨p (n - 1), 2, none⟩ (.int .u64 ts)).heap.size = w.heap.size := by simp [World.setCell]
  have hlt : ∀ i, i < n → p i < w.heap.size := fun i hi => (h3 i hi).2.2.lt
  have hl1 := (((h1.setOther (a := ⟨p (n - 1), 2, none⟩) (by show b + 1 ≠ p (n - 1); omega) (.int .u64 ts)).alloc (.cells #[.int .i64 1, .int .u64 (K (n - 1)), .int .u64 0] 46)).drew.drew).of_block (turned_block ht2 (by omega))
  have hb1 : Below b w w2 := turned_below ht2 (((Below.refl b w).setCell (p := ⟨p (n - 1), 2, none⟩) (by show b ≤ p (n - 1); omega) (.int .u64 ts)).alloc (by rw [hsz]; have := h2.lt; omega) _).drew.drew
    (by show b ≤ (World.alloc _ _).heap.size; have := h2.lt; simp [hsz]; omega) (Nat.le_refl _)
  have hnew := ef_new (w.setCell ⟨p (n - 1), 2, none⟩ (.int .u64 ts)) 1 (K (n - 1)) 0
  rw [hsz] at hnew
  refine ⟨hl1, hb1.setCell (by show b ≤ b + 1; omega) _, lf_set2 hl1, mapIs_setCell hM2 (a := ⟨b + 1, 2, none⟩) (by show b ≠ b + 1; omega) _, fun i hi => ?_, fun i j hi hj e => ?_⟩
  · by_cases e : i = n
    · subst e
      refine ⟨by simp [upd, updf], by simp [upd]; have := h2.lt; have := h1.lt; omega, ?_⟩
      have := (hnew.drew.drew.of_block (turned_block ht2 (by have := h2.lt; omega))).setOther (a := ⟨b + 1, 2, none⟩) (by show w.heap.size ≠ b + 1; have := h1.lt; omega) (.int .u64 ts)
      simpa [upd] using this
    · obtain ⟨k1, k2, k3⟩ := h3 i (by omega)
      have hKi : K i ≠ ts := fun e' => by rw [e', hf] at k1; cases k1
      refine ⟨by simp [upd, updf, e, hKi, k1], by simp [upd, e]; exact k2, ?_⟩
      by_cases e2 : i = n - 1
      · subst e2
        have := ((((ef_set2 (x := ts) k3).alloc (.cells #[.int .i64 1, .int .u64 (K (n - 1)), .int .u64 0] 46)).drew.drew).of_block (turned_block ht2 (by omega))).setOther (a := ⟨b + 1, 2, none⟩) (by show p (n - 1) ≠ b + 1; omega) (.int .u64 ts)
        simpa [upd, e] using this
      · have hne : p i ≠ p (n - 1) := fun h => e2 (h4 i (n - 1) (by omega) (by omega) h)
        have := ((((k3.setOther (a := ⟨p (n - 1), 2, none⟩) hne (.int .u64 ts)).alloc (.cells #[.int .i64 1, .int .u64 (K (n - 1)), .int .u64 0] 46)).drew.drew).of_block (turned_block ht2 (by omega))).setOther (a := ⟨b + 1, 2, none⟩) (by show p i ≠ b + 1; omega) (.int .u64 ts)
        simpa [upd, e, e2] using this
  · by_cases e1 : i = n
    · by_cases e2 : j = n
      · omega
      · have := hlt j (by omega)
        simp [upd, e1, e2] at e; omega
    · by_cases e2 : j = n
      · have := hlt i (by omega)
        simp [upd, e1, e2] at e; omega
      · simp [upd, e1, e2] at e
        exact h4 i j (by omega) (by omega) e

set_option maxHeartbeats 1000000 in
set_option maxRecDepth 100000 in
theorem add_new (b m n : Nat) (o ts : Int) (f : Int → Option Nat) (K R O N : Nat → Int) (p : Nat → Nat) (hn1 : 1 ≤ n) (hn : n ≤ 32768) (hm : m ≤ 32768) (hk : (Lit.int .u64 (K (n - 1))).wf = true) (hts : (Lit.int .u64 ts).wf = true) (hf : f ts = none) (w : World) (h : St w b m n o (K (n - 1)) f K R O N p) :
    Calls Try.prog 25 #[.pointer (some ⟨b + 1, 0, none⟩), .int .u64 ts] w fun e w' => e = .returned (.tuple #[]) ∧ Below b w w' ∧
      St w' b (m + 1) (n + 1) o ts (updf f ts (some w.heap.size)) (upd K n ts) (upd R n 1) (upd O n (K (n - 1))) (upd (upd N (n - 1) ts) n 0) (upd p n w.heap.size) := by
  have H := hide h
  obtain ⟨h1, h2, h3, h4⟩ := h
  obtain ⟨y0, y1, y2⟩ := lf_cells h1
  obtain ⟨g1, g2, g3⟩ := h3 (n - 1) (by omega)
  obtain ⟨z0, z1, z2⟩ := ef_cells g3
  have fz := g3.frozen 2
  have fl := h1.frozen 2
  have hl1 := h2.look hts
  rw [hf] at hl1
  simp only [pV] at hl1
  have hl2 := (h2.next (Below.refl _ _).drew).look hk
  rw [g1] at hl2
  simp only [pV] at hl2
  have hlen := fun ty => h2.len ty
  have q1 : ((n : Int) == 0) = false := by rw [beq_eq_false_iff_ne]; omega
  have hpb : p (n - 1) ≠ b := by omega
  have hpl : p (n - 1) ≠ b + 1 := by omega
  have hpl' : b + 1 ≠ p (n - 1) := by omega
  have hbl := h1.lt
  obtain ⟨w2, hrun, hM2, ht2⟩ := MapIs.store (((mapIs_setCell h2 (a := ⟨p (n - 1), 2, none⟩) (fun e => hpb e.symm) (.int .u64 ts)).next (below_allocS (Below.refl _ _) (.cells #[.int .i64 1, .int .u64 (K (n - 1)), .int .u64 0] 46))).next (Below.refl _ _).drew.drew) (by unfold maxLen; omega) hts w.heap.size
  rw [hf] at hM2
  simp only [Option.isSome_none, Bool.false_eq_true, if_false] at hM2
  have hkeep := turned_cells ht2
  have hbb : b + 1 ≠ b := by omega
  obtain ⟨hl2', hfin⟩ := add_new_facts w w2 b m n o ts f K R O N p hn1 hf H.out hM2 ht2
  have fl2 := hl2'.frozen 2
  have HFIN := hide hfin
  clear hfin hl2' hM2 ht2
  clear h1 h2 h3 h4 g1 g3
  go_enter Try.func25, Try.ntmps25
  go_wp2
  go_region
  go_wp2
  go_region_held3 (fun w' => w'.cell? ⟨b + 1, 0, none⟩ = some (.map (some b)) ∧ w'.cell? ⟨b + 1, 2, none⟩ = some (.int .u64 (K (n - 1)))) (simp [*, go_sem]) (fail)
  go_wp2
  go_end0
  exact ⟨rfl, HFIN.out.1, HFIN.out.2⟩
end Go.Proofs.Qxb6617417a.Sn
