import Derived.Test.Qxb6617417aSn1
namespace Go.Proofs.Qxb6617417a.Sn
open Go.RowKit Go.Deep Go.Maps

/-- The cells of a snapshotList; of a heldSnapshot. -/
def lf (b : Nat) (o nw : Int) (j : Nat) : Value := if j = 0 then .map (some b) else if j = 1 then .int .u64 o else .int .u64 nw
def ef (r o nw : Int) (j : Nat) : Value := if j = 0 then .int .i64 r else if j = 1 then .int .u64 o else .int .u64 nw
theorem lf_cells {w : World} {L b : Nat} {o nw : Int} (h : w.rowIs L 43 3 (lf b o nw)) :
    w.cell? ⟨L, 0, none⟩ = some (.map (some b)) ∧ w.cell? ⟨L, 1, none⟩ = some (.int .u64 o) ∧ w.cell? ⟨L, 2, none⟩ = some (.int .u64 nw) :=
  ⟨h.cell (i := 0) (by omega), h.cell (i := 1) (by omega), h.cell (i := 2) (by omega)⟩
theorem ef_cells {w : World} {p : Nat} {r o nw : Int} (h : w.rowIs p 46 3 (ef r o nw)) :
    w.cell? ⟨p, 0, none⟩ = some (.int .i64 r) ∧ w.cell? ⟨p, 1, none⟩ = some (.int .u64 o) ∧ w.cell? ⟨p, 2, none⟩ = some (.int .u64 nw) :=
  ⟨h.cell (i := 0) (by omega), h.cell (i := 1) (by omega), h.cell (i := 2) (by omega)⟩
theorem row_next {W w1 : World} {g : Nat} {t : TypeId} {n : Nat} {f : Nat → Value} (h : W.rowIs g t n f) (hb : Below W.heap.size W w1) : w1.rowIs g t n f := h.of_block (hb.block _ h.lt)
theorem lf_set1 {w : World} {L b : Nat} {o nw x : Int} (h : w.rowIs L 43 3 (lf b o nw)) : (w.setCell ⟨L, 1, none⟩ (.int .u64 x)).rowIs L 43 3 (lf b x nw) := by
  refine (h.set 1 _).congr fun j hj => ?_
  have : j = 0 ∨ j = 1 ∨ j = 2 := by omega
  rcases this with rfl | rfl | rfl <;> rfl
theorem lf_set2 {w : World} {L b : Nat} {o nw x : Int} (h : w.rowIs L 43 3 (lf b o nw)) : (w.setCell ⟨L, 2, none⟩ (.int .u64 x)).rowIs L 43 3 (lf b o x) := by
  refine (h.set 2 _).congr fun j hj => ?_
  have : j = 0 ∨ j = 1 ∨ j = 2 := by omega
  rcases this with rfl | rfl | rfl <;> rfl
theorem ef_set0 {w : World} {p : Nat} {r o nw x : Int} (h : w.rowIs p 46 3 (ef r o nw)) : (w.setCell ⟨p, 0, none⟩ (.int .i64 x)).rowIs p 46 3 (ef x o nw) := by
  refine (h.set 0 _).congr fun j hj => ?_
  have : j = 0 ∨ j = 1 ∨ j = 2 := by omega
  rcases this with rfl | rfl | rfl <;> rfl
theorem ef_set2 {w : World} {p : Nat} {r o nw x : Int} (h : w.rowIs p 46 3 (ef r o nw)) : (w.setCell ⟨p, 2, none⟩ (.int .u64 x)).rowIs p 46 3 (ef r o x) := by
  refine (h.set 2 _).congr fun j hj => ?_
  have : j = 0 ∨ j = 1 ∨ j = 2 := by omega
  rcases this with rfl | rfl | rfl <;> rfl
theorem lf_new (W : World) (b : Nat) (o nw : Int) : (W.alloc (.cells #[.map (some b), .int .u64 o, .int .u64 nw] 43)).rowIs W.heap.size 43 3 (lf b o nw) :=
  World.rowIs_alloc W #[.map (some b), .int .u64 o, .int .u64 nw] 43 (lf b o nw) (fun i hi => by
    have : i = 0 ∨ i = 1 ∨ i = 2 := by simp at hi; omega
    rcases this with rfl | rfl | rfl <;> rfl)
theorem ef_new (W : World) (r o nw : Int) : (W.alloc (.cells #[.int .i64 r, .int .u64 o, .int .u64 nw] 46)).rowIs W.heap.size 46 3 (ef r o nw) :=
  World.rowIs_alloc W #[.int .i64 r, .int .u64 o, .int .u64 nw] 46 (ef r o nw) (fun i hi => by
    have : i = 0 ∨ i = 1 ∨ i = 2 := by simp at hi; omega
    rcases this with rfl | rfl | rfl <;> rfl)

theorem len_any (L b m n : Nat) (f : Int → Option Nat) (o nw : Int) (w : World) (hl : w.rowIs L 43 3 (lf b o nw)) (hm : MapIs w b m n f) :
    Calls Try.prog 26 #[.pointer (some ⟨L, 0, none⟩)] w fun e w' => e = .returned (.int .i64 n) ∧ w' = w := by
  obtain ⟨c0, c1, c2⟩ := lf_cells hl
  have hlen := fun ty => hm.len ty
  go_enter Try.func26, Try.ntmps26
  go_wp2
  go_ret
  exact ⟨rfl, rfl⟩
theorem ends_any (L b : Nat) (o nw : Int) (w : World) (hl : w.rowIs L 43 3 (lf b o nw)) :
    Calls Try.prog 27 #[.pointer (some ⟨L, 0, none⟩)] w fun e w' => e = .returned (.tuple #[.int .u64 o, .int .u64 nw]) ∧ Below w.heap.size w w' := by
  obtain ⟨c0, c1, c2⟩ := lf_cells hl
  go_enter Try.func27, Try.ntmps27
  go_wp2
  go_quiet (fail)
  go_wp2
  go_ret2
  exact ⟨rfl, below_drewN (Below.refl _ _) _⟩
set_option maxRecDepth 100000 in
theorem get_any (L b m n p : Nat) (f : Int → Option Nat) (k o nw r eo en : Int) (hk : (Lit.int .u64 k).wf = true) (w : World) (hl : w.rowIs L 43 3 (lf b o nw)) (hm : MapIs w b m n f) (hf : f k = some p) (he : w.rowIs p 46 3 (ef r eo en)) :
    Calls Try.prog 28 #[.pointer (some ⟨L, 0, none⟩), .int .u64 k] w fun e w' => e = .returned (.tuple #[.int .i64 r, .int .u64 eo, .int .u64 en, .bool true]) ∧ Below w.heap.size w w' := by
  obtain ⟨c0, c1, c2⟩ := lf_cells hl
  obtain ⟨d0, d1, d2⟩ := ef_cells he
  have hlook := hm.look_ok hk
  rw [hf] at hlook
  simp only [pV, Option.isSome_some] at hlook
  go_enter Try.func28, Try.ntmps28
  go_wp2
  go_quiet (fail)
  go_wp2
  exact bodyPost_ret (v := .tuple #[.int .i64 r, .int .u64 eo, .int .u64 en, .bool true]) (by simp [results, Try.results28, go_sem]) rfl ⟨rfl, below_drewN (Below.refl _ _) _⟩
end Go.Proofs.Qxb6617417a.Sn
