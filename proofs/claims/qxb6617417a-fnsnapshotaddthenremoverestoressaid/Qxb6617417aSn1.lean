import Derived.Test.Qxb6617417aRows
import Derived.WalkKit
import Derived.WalkSpells
import Derived.WalkLawsBesides
import Derived.BigQuiet
import Derived.Deep.QuietTactic
import Derived.Deep.DeepFit
import Derived.Deep.OwnRows
import Derived.Deep.RegionWith
import Derived.Deep.RegionHeld3
import Derived.Laws.CopyOwn
import Derived.Maps.Own
import Derived.Maps.OwnOps
import Derived.Maps.OwnSet
import Derived.Maps.Views
namespace Go.Proofs.Qxb6617417a.Sn
open Go.RowKit Go.Deep Go.Maps

theorem hide {p : Prop} (h : p) : Hid p := h
theorem bcell {W w1 : World} (hb : Below W.heap.size W w1) : (∀ b o, b < W.heap.size → w1.cell? ⟨b, o, none⟩ = W.cell? ⟨b, o, none⟩) :=
  fun b o h => hb.cell (p := ⟨b, o, none⟩) h
theorem below_allocS {a w : World} (h : Below a.heap.size a w) (o : Obj) : Below a.heap.size a (w.alloc o) := h.alloc h.size o
theorem below_transS {a b c : World} (h : Below a.heap.size a b) (k : Below b.heap.size b c) : Below a.heap.size a c := h.trans (k.mono h.size)

/-! ### A map from uint64 to pointers, told by a function -/
/-- How an element reads, for the proof alone: a pointer to the head of block p as p. -/
def pE : Value → Option (DataW Unit × List MemPlace)
  | .pointer none => some (.nil, [])
  | .pointer (some ⟨p, 0, none⟩) => some (.lit (.int .i64 p), [])
  | _ => none
def pV : Option Nat → Value
  | none => .pointer none
  | some p => .pointer (some ⟨p, 0, none⟩)
def pD : Option Nat → DataW Unit
  | none => .nil
  | some p => .lit (.int .i64 p)
theorem pE_pV (o : Option Nat) : pE (pV o) = some (pD o, []) := by cases o <;> rfl
theorem pE_inv {v : Value} {o : Option Nat} {ps : List MemPlace} (h : pE v = some (pD o, ps)) : v = pV o := by
  unfold pE at h
  split at h
  · cases o with
    | none => rfl
    | some p => simp [pD] at h
  · cases o with
    | none => simp [pD] at h
    | some p =>
      simp [pD] at h
      have := h.1
      simp [pV]
  · cases h

theorem keyed : Keyed Try.prog 24 := int_keyed Try.underlying24
theorem zero44 (w : World) : (zeroValue 44).run Try.prog w = .ok (.pointer none) w := by kernel_rfl

/-- Another value at one key. -/
def updf (f : Int → Option Nat) (k : Int) (o : Option Nat) (x : Int) : Option Nat := if x = k then o else f x

/-- Block b is a map of n entries (at most m): at key k it holds the pointer to block f k. -/
def MapIs (w : World) (b m n : Nat) (f : Int → Option Nat) : Prop :=
  ∃ D : DataW Unit, w.ownsMap Try.prog 24 pE b m D ∧ Maps.size D = n ∧ ∀ k : Int, (Lit.int .u64 k).wf = true → D.atKey (.int .u64 k) .nil = pD (f k) ∧ Maps.has D (.int .u64 k) = (f k).isSome

theorem mapIs_made (w : World) : MapIs (w.alloc (.map #[] 0)) w.heap.size 0 0 (fun _ => none) :=
  ⟨.map [], World.ownsMap_made w Try.prog 24 pE, rfl, fun _ _ => ⟨rfl, rfl⟩⟩
theorem MapIs.lt {w : World} {b m n : Nat} {f : Int → Option Nat} (h : MapIs w b m n f) : b < w.heap.size := by
  obtain ⟨D, h, _⟩ := h; exact h.lt
theorem MapIs.block {w w' : World} {b m n : Nat} {f : Int → Option Nat} (h : MapIs w b m n f) (e : w'.heap[b]? = w.heap[b]?) : MapIs w' b m n f := by
  obtain ⟨D, ⟨es, clock, hb, F, hs, hD⟩, hn, hf⟩ := h
  exact ⟨D, ⟨es, clock, e.trans hb, F, hs, hD⟩, hn, hf⟩
theorem MapIs.next {W w1 : World} {b m n : Nat} {f : Int → Option Nat} (h : MapIs W b m n f) (hb : Below W.heap.size W w1) : MapIs w1 b m n f := h.block (hb.block _ h.lt)
theorem MapIs.look {w : World} {b m n : Nat} {f : Int → Option Nat} (h : MapIs w b m n f) {k : Int} (hk : (Lit.int .u64 k).wf = true) :
    (Instr.lookup 41 (.map (some b)) (.int .u64 k) false).run Try.prog w = .ok (pV (f k)) w := by
  obtain ⟨D, ho, _, hf⟩ := h
  obtain ⟨v, ps, hrun, hv⟩ := ho.lookup keyed Try.underlying41 (zero44 w) (zd := .nil) (zp := []) rfl (keyOf_int_mk Try.underlying24 hk)
  rw [(hf k hk).1] at hv
  rw [hrun, pE_inv hv]
theorem MapIs.look_ok {w : World} {b m n : Nat} {f : Int → Option Nat} (h : MapIs w b m n f) {k : Int} (hk : (Lit.int .u64 k).wf = true) :
    (Instr.lookup 41 (.map (some b)) (.int .u64 k) true).run Try.prog w = .ok (.tuple #[pV (f k), .bool (f k).isSome]) w := by
  obtain ⟨D, ho, _, hf⟩ := h
  obtain ⟨v, ps, hrun, hv⟩ := ho.look_ok keyed Try.underlying41 (zero44 w) (zd := .nil) (zp := []) rfl (keyOf_int_mk Try.underlying24 hk)
  rw [(hf k hk).1] at hv
  rw [hrun, pE_inv hv, (hf k hk).2]
theorem MapIs.len {w : World} {b m n : Nat} {f : Int → Option Nat} (h : MapIs w b m n f) (ty : TypeId) :
    (Builtin.len_ #[41] ty #[.map (some b)]).run Try.prog w = .ok (.int .i64 n) w := by
  obtain ⟨D, ho, hn, _⟩ := h
  rw [ho.len Try.underlying41 ty, hn]
theorem lit_ne {k k' : Int} (h : k' ≠ k) : (Lit.int .u64 k') ≠ (Lit.int .u64 k) := fun e => h (by injection e)
theorem MapIs.store {w : World} {b m n : Nat} {f : Int → Option Nat} (h : MapIs w b m n f) (hm : m < maxLen) {k : Int} (hk : (Lit.int .u64 k).wf = true) (p : Nat) :
    ∃ w', (Instr.mapUpdate 41 (.map (some b)) (.int .u64 k) (.pointer (some ⟨p, 0, none⟩))).run Try.prog w = .ok () w' ∧ MapIs w' b (m + 1) (if (f k).isSome = true then n else n + 1) (updf f k (some p)) ∧ w.mapTurned w' b := by
  obtain ⟨D, ho, hn, hf⟩ := h
  obtain ⟨w', hrun, ho', ht⟩ := ho.store keyed Try.underlying41 hm (keyOf_int_mk Try.underlying24 hk) (pE_pV (some p))
  have hkl : WideAt.IsKeyLit (Lit.int .u64 k) := by trivial
  have hti := ho.tidy keyed
  refine ⟨w', hrun, ⟨_, ho', ?_, fun k' hk' => ?_⟩, ht⟩
  · rw [Maps.size_put hti, (hf k hk).2, hn]
  · by_cases e : k' = k
    · subst e
      exact ⟨by rw [Maps.atKey_put_same hti.isMap hkl]; simp [updf], by rw [Maps.has_put_same hti.isMap hkl]; simp [updf]⟩
    · rw [Maps.atKey_put_other (lit_ne e), Maps.has_put_other (lit_ne e)]
      simpa [updf, e] using hf k' hk'
theorem MapIs.drop {w : World} {b m n : Nat} {f : Int → Option Nat} (h : MapIs w b m n f) {k : Int} (hk : (Lit.int .u64 k).wf = true) (ty : TypeId) :
    ∃ w', (Builtin.delete_ #[41, 24] ty #[.map (some b), .int .u64 k]).run Try.prog w = .ok (.tuple #[]) w' ∧ MapIs w' b m (if (f k).isSome = true then n - 1 else n) (updf f k none) ∧ w.mapTurned w' b := by
  obtain ⟨D, ho, hn, hf⟩ := h
  obtain ⟨w', hrun, ho', ht⟩ := ho.drop keyed Try.underlying41 (keyOf_int_mk Try.underlying24 hk) ty
  have hti := ho.tidy keyed
  refine ⟨w', hrun, ⟨_, ho', ?_, fun k' hk' => ?_⟩, ht⟩
  · have := Maps.size_del (k := Lit.int .u64 k) hti
    rw [(hf k hk).2, hn] at this
    split at this <;> simp_all <;> omega
  · by_cases e : k' = k
    · subst e
      exact ⟨by rw [Maps.atKey_del_same]; simp [updf, pD], by rw [Maps.has_del_same]; simp [updf]⟩
    · rw [Maps.atKey_del_other (lit_ne e), Maps.has_del_other (lit_ne e)]
      simpa [updf, e] using hf k' hk'
theorem turned_block {w w' : World} {b : Nat} (h : w.mapTurned w' b) {q : Nat} (hq : q ≠ b) : w'.heap[q]? = w.heap[q]? := by
  obtain ⟨es, clock, es', clock', hb, rfl⟩ := h
  exact ChangeMaps.heap_setBlock_other hb _ hq
theorem turned_size {w w' : World} {b : Nat} (h : w.mapTurned w' b) : w'.heap.size = w.heap.size := by
  obtain ⟨es, clock, es', clock', hb, rfl⟩ := h
  simp [ChangeMaps.setBlock]
theorem turned_below {w w' a : World} {b B : Nat} (h : w.mapTurned w' b) (hB : Below B a w) (hs : B ≤ w.heap.size) (hb : B ≤ b) : Below B a w' :=
  hB.grown h.grown hs (fun k hk => by cases hk; exact hb)
end Go.Proofs.Qxb6617417a.Sn
