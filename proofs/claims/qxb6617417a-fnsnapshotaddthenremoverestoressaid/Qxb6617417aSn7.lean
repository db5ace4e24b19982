import Derived.Test.Qxb6617417aSn6
namespace Go.Proofs.Qxb6617417a.Sn
open Go.RowKit Go.Deep Go.Maps

theorem add_first_facts (w w2 : World) (b m : Nat) (o nw ts : Int) (f : Int → Option Nat) (K R O N : Nat → Int) (p : Nat → Nat) (h : St w b m 0 o nw f K R O N p)
    (hM2 : MapIs w2 b (m + 1) 1 (updf f ts (some w.heap.size)))
    (ht2 : ((w.setCell ⟨b + 1, 1, none⟩ (.int .u64 ts)).alloc (.cells #[.int .i64 1, .int .u64 nw, .int .u64 0] 46)).drew.mapTurned w2 b) :
    w2.rowIs (b + 1) 43 3 (lf b ts nw) ∧ Below b w (w2.setCell ⟨b + 1, 2, none⟩ (.int .u64 ts)) ∧
      St (w2.setCell ⟨b + 1, 2, none⟩ (.int .u64 ts)) b (m + 1) 1 ts ts (updf f ts (some w.heap.size)) (upd K 0 ts) (upd R 0 1) (upd O 0 nw) (upd N 0 0) (upd p 0 w.heap.size) := by
  obtain ⟨h1, h2, h3, h4⟩ := h
  have hsz : (w.setCell ⟨b + 1, 1, none⟩ (.int .u64 ts)).heap.size = w.heap.size := by simp [World.setCell]
  have hl1 := (((lf_set1 (x := ts) h1).alloc (.cells #[.int .i64 1, .int .u64 nw, .int .u64 0] 46)).drew).of_block (turned_block ht2 (by omega))
  have hb1 : Below b w w2 := turned_below ht2 (((Below.refl b w).setCell (p := ⟨b + 1, 1, none⟩) (by show b ≤ b + 1; omega) (.int .u64 ts)).alloc (by rw [hsz]; have := h2.lt; omega) _).drew
    (by show b ≤ (World.alloc _ _).heap.size; have := h2.lt; simp [hsz]; omega) (Nat.le_refl _)
  have hnew := ef_new (w.setCell ⟨b + 1, 1, none⟩ (.int .u64 ts)) 1 nw 0
  rw [hsz] at hnew
  refine ⟨hl1, hb1.setCell (by show b ≤ b + 1; omega) _, lf_set2 hl1, mapIs_setCell hM2 (a := ⟨b + 1, 2, none⟩) (by show b ≠ b + 1; omega) _, fun i hi => ?_, fun i j hi hj _ => by omega⟩
  obtain rfl : i = 0 := by omega
  refine ⟨by simp [upd, updf], by simp [upd]; have := h1.lt; omega, ?_⟩
  have := (hnew.drew.of_block (turned_block ht2 (by have := h2.lt; omega))).setOther (a := ⟨b + 1, 2, none⟩) (by show w.heap.size ≠ b + 1; have := h1.lt; omega) (.int .u64 ts)
  simpa [upd] using this

set_option maxHeartbeats 1000000 in
set_option maxRecDepth 100000 in
theorem add_first (b m : Nat) (o nw ts : Int) (f : Int → Option Nat) (K R O N : Nat → Int) (p : Nat → Nat) (hm : m ≤ 32768) (hts : (Lit.int .u64 ts).wf = true) (hf : f ts = none) (w : World) (h : St w b m 0 o nw f K R O N p) :
    Calls Try.prog 25 #[.pointer (some ⟨b + 1, 0, none⟩), .int .u64 ts] w fun e w' => e = .returned (.tuple #[]) ∧ Below b w w' ∧
      St w' b (m + 1) 1 ts ts (updf f ts (some w.heap.size)) (upd K 0 ts) (upd R 0 1) (upd O 0 nw) (upd N 0 0) (upd p 0 w.heap.size) := by
  have H := hide h
  obtain ⟨h1, h2, h3, h4⟩ := h
  obtain ⟨y0, y1, y2⟩ := lf_cells h1
  have fl1 := h1.frozen 1
  have hl1 := h2.look hts
  rw [hf] at hl1
  simp only [pV] at hl1
  have hlen := fun ty => h2.len ty
  have hbl := h1.lt
  obtain ⟨w2, hrun, hM2, ht2⟩ := MapIs.store (((mapIs_setCell h2 (a := ⟨b + 1, 1, none⟩) (by show b ≠ b + 1; omega) (.int .u64 ts)).next (below_allocS (Below.refl _ _) (.cells #[.int .i64 1, .int .u64 nw, .int .u64 0] 46))).next (Below.refl _ _).drew) (by unfold maxLen; omega) hts w.heap.size
  rw [hf] at hM2
  simp only [Option.isSome_none, Bool.false_eq_true, if_false] at hM2
  have hkeep := turned_cells ht2
  have hbb : b + 1 ≠ b := by omega
  obtain ⟨hl2', hfin⟩ := add_first_facts w w2 b m o nw ts f K R O N p H.out hM2 ht2
  have fl2 := hl2'.frozen 2
  have HFIN := hide hfin
  clear hfin hl2' hM2 ht2 h1 h2 h3 h4
  go_enter Try.func25, Try.ntmps25
  go_wp2
  go_region_held3 (fun w' => w'.cell? ⟨b + 1, 0, none⟩ = some (.map (some b)) ∧ w'.cell? ⟨b + 1, 2, none⟩ = some (.int .u64 nw)) (simp [*, go_sem]) (fail)
  go_wp2
  go_end0
  exact ⟨rfl, HFIN.out.1, HFIN.out.2⟩

theorem zzadd_of {L : Nat} {ts : Int} {w : World} {P : World → Prop} (h : Calls Try.prog 25 #[.pointer (some ⟨L, 0, none⟩), .int .u64 ts] w fun e w' => e = .returned (.tuple #[]) ∧ P w') :
    Calls Try.prog 12 #[.pointer (some ⟨L, 0, none⟩), .int .u64 ts] w fun e w' => e = .returned (.tuple #[]) ∧ P w' := by
  have H := hide h
  clear h
  go_enter Try.func12, Try.ntmps12
  go_wp2_with (go_at_call 25; refine H.out.mono ?_; rintro e w' ⟨rfl, hp⟩)
  go_end0
  exact ⟨rfl, hp⟩
theorem zzremove_of {L : Nat} {ts : Int} {w : World} {P : World → Prop} (h : Calls Try.prog 29 #[.pointer (some ⟨L, 0, none⟩), .int .u64 ts] w fun e w' => e = .returned (.tuple #[]) ∧ P w') :
    Calls Try.prog 17 #[.pointer (some ⟨L, 0, none⟩), .int .u64 ts] w fun e w' => e = .returned (.tuple #[]) ∧ P w' := by
  have H := hide h
  clear h
  go_enter Try.func17, Try.ntmps17
  go_wp2_with (go_at_call 29; refine H.out.mono ?_; rintro e w' ⟨rfl, hp⟩)
  go_end0
  exact ⟨rfl, hp⟩
end Go.Proofs.Qxb6617417a.Sn
