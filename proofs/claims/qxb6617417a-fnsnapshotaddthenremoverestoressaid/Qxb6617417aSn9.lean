import Derived.Test.Qxb6617417aSn8
namespace Go.Proofs.Qxb6617417a.Sn
open Go.RowKit Go.Deep Go.Maps

theorem size24 : (Try.prog.info? 24).map (·.size) = some 1 := by kernel_rfl
theorem size3 : (Try.prog.info? 3).map (·.size) = some 1 := by kernel_rfl

/-- `copy(zzc, xs)` right behind `zzc := make(.., len(xs))`. -/
theorem copy_run {P : Program} (T elem ty : TypeId) (hu : P.underlying T = some (.slice elem)) (hsz : (P.info? elem).map (·.size) = some 1)
    (kd : IntKind) (g off n sCap : Nat) (z : Nat → Int) (c0 : Value) (t : TypeId) (w : World) (hsl : Sl kd w g off n z) :
    ∃ w', (Builtin.copy_ #[T, T] ty #[.slice (some ⟨w.heap.size, 0, none⟩) n n, .slice (some ⟨g, off, none⟩) n sCap]).run P (w.alloc (.cells (madeCells #[c0] n) t)) = .ok (goInt n) w' ∧
      Sl kd w' w.heap.size 0 n z ∧ Below w.heap.size w w' := by
  have hl : ((List.range n).map fun i => Value.int kd (z i)).length = n := by simp
  have hg : (w.alloc (.cells (madeCells #[c0] n) t)).heap[w.heap.size]? = some (.cells (madeCells #[c0] n) t) := by show (w.heap.push (.cells (madeCells #[c0] n) t))[w.heap.size]? = _; simp
  have hrun := run_copy_row (P := P) (w.alloc (.cells (madeCells #[c0] n) t)) T T ty elem w.heap.size 0 n n ⟨g, off, none⟩ n sCap (madeCells #[c0] n) t ((List.range n).map fun i => .int kd (z i)) hu hsz hg (by simp [hl]) (fun j v hj => by
    have hjn : j < n := by
      have := (List.getElem?_eq_some_iff.1 hj).1
      simpa using this
    have e : v = .int kd (z j) := by simpa [hjn] using hj.symm
    subst e
    have := (hsl.next (below_allocS (Below.refl _ _) (.cells (madeCells #[c0] n) t))).2 j hjn
    by_cases e : j = 0
    · subst e; simpa [Addr.add] using this
    · simpa [Addr.add, e] using this) (by simp [size_madeCells]) (by simp; intro i _; rfl)
  rw [hl] at hrun
  refine ⟨_, hrun, ?_, below_setRow (below_allocS (Below.refl _ _) _) (Nat.le_refl _) _⟩
  have hh := setRow_heap (w.alloc (.cells (madeCells #[c0] n) t)) w.heap.size _ ((madeCells #[c0] n).toList.take 0 ++ ((List.range n).map fun i => Value.int kd (z i)) ++ (madeCells #[c0] n).toList.drop (0 + n)).toArray t _ hg
  refine ⟨(Array.getElem?_eq_some_iff.1 hh).1, fun i hi => ?_⟩
  simp only [World.cell?, hh]
  simp [List.getElem?_append, hi]
theorem copy_none {P : Program} (T elem ty : TypeId) (hu : P.underlying T = some (.slice elem)) (hsz : (P.info? elem).map (·.size) = some 1) (a a' : Option Addr) (c c' : Nat) (w : World) :
    (Builtin.copy_ #[T, T] ty #[.slice a 0 c, .slice a' 0 c']).run P w = .ok (goInt 0) w := run_copy_none (P := P) w T T ty elem a a' 0 c 0 c' hu hsz rfl

set_option maxHeartbeats 1000000 in
theorem bytes8_small (a0 a1 a2 a3 : Option Addr) (n0 n1 n2 n3 c0 c1 c2 c3 : Nat) (x y z : Int) (h0 : n0 ≤ 32768) (h1 : n1 ≤ 32768) (h2 : n2 ≤ 32768) (h3 : n3 ≤ 32768) (w : World) :
    Calls Try.prog 8 #[.slice a0 n0 c0, .slice a1 n1 c1, .slice a2 n2 c2, .slice a3 n3 c3, .int .u64 x, .int .u64 y, .int .u64 z] w fun e w' => e = .returned (.bool true) ∧ w' = w := by
  go_enter Try.func8, Try.ntmps8
  go_wp2
  go_ret
  exact ⟨rfl, rfl⟩
set_option maxHeartbeats 1000000 in
theorem bytes8_any (a0 a1 a2 a3 : Option Addr) (n0 n1 n2 n3 c0 c1 c2 c3 : Nat) (x y z : Int) (h0 : n0 ≤ maxLen) (h1 : n1 ≤ maxLen) (h2 : n2 ≤ maxLen) (h3 : n3 ≤ maxLen) (w : World) :
    Calls Try.prog 8 #[.slice a0 n0 c0, .slice a1 n1 c1, .slice a2 n2 c2, .slice a3 n3 c3, .int .u64 x, .int .u64 y, .int .u64 z] w fun e w' => (e = .returned (.bool true) ∨ e = .returned (.bool false)) ∧ w' = w := by
  unfold maxLen at h0 h1 h2 h3
  go_enter Try.func8, Try.ntmps8
  go_wp2
  all_goals (go_ret; exact ⟨by first | exact Or.inl rfl | exact Or.inr rfl, rfl⟩)
set_option maxHeartbeats 1000000 in
theorem bytes18_small (a0 a1 a2 a3 : Option Addr) (n0 n1 n2 n3 c0 c1 c2 c3 : Nat) (x y z : Int) (h0 : n0 ≤ 32768) (h1 : n1 ≤ 32768) (h2 : n2 ≤ 32768) (h3 : n3 ≤ 32768) (w : World) :
    Calls Try.prog 18 #[.slice a0 n0 c0, .slice a1 n1 c1, .slice a2 n2 c2, .slice a3 n3 c3, .int .u64 x, .int .u64 y, .int .u64 z] w fun e w' => e = .returned (.bool true) ∧ w' = w := by
  go_enter Try.func18, Try.ntmps18
  go_wp2
  go_ret
  exact ⟨rfl, rfl⟩
set_option maxHeartbeats 1000000 in
theorem bytes18_any (a0 a1 a2 a3 : Option Addr) (n0 n1 n2 n3 c0 c1 c2 c3 : Nat) (x y z : Int) (h0 : n0 ≤ maxLen) (h1 : n1 ≤ maxLen) (h2 : n2 ≤ maxLen) (h3 : n3 ≤ maxLen) (w : World) :
    Calls Try.prog 18 #[.slice a0 n0 c0, .slice a1 n1 c1, .slice a2 n2 c2, .slice a3 n3 c3, .int .u64 x, .int .u64 y, .int .u64 z] w fun e w' => (e = .returned (.bool true) ∨ e = .returned (.bool false)) ∧ w' = w := by
  unfold maxLen at h0 h1 h2 h3
  go_enter Try.func18, Try.ntmps18
  go_wp2
  all_goals (go_ret; exact ⟨by first | exact Or.inl rfl | exact Or.inr rfl, rfl⟩)

/-- What ZZMakeSnapshotList lays is a snapshot list. -/
theorem st_made {w : World} {B n : Nat} {o nw : Int} {K R O N : Nat → Int} (hK : Inj K n) (h1 : w.rowIs (B + 1) 43 3 (lf B o nw)) (h2 : MapIs w B n n (fm K B n)) (h3 : ∀ j, j < n → w.rowIs (B + 2 + j) 46 3 (ef (R j) (O j) (N j))) :
    St w B n n o nw (fm K B n) K R O N (fun j => B + 2 + j) :=
  ⟨h1, h2, fun i hi => ⟨fm_some K B n hK n (Nat.le_refl _) i hi, by show B + 2 ≤ B + 2 + i; omega, h3 i hi⟩, fun i j _ _ e => by have e : B + 2 + i = B + 2 + j := e; omega⟩
theorem St.rep {w : World} {b m n : Nat} {o nw : Int} {f : Int → Option Nat} {K R O N : Nat → Int} {p : Nat → Nat} (h : St w b m n o nw f K R O N p) (hwf : ∀ i, i < n → (Lit.int .u64 (K i)).wf = true)
    (he : 0 < n → o = K 0 ∧ nw = K (n - 1)) (hO : ∀ i, 0 < i → i < n → O i = K (i - 1)) (hN : ∀ i, i + 1 < n → N i = K (i + 1)) : Rep w (b + 1) n K R :=
  ⟨b, m, o, nw, f, p, O, N, h.1, h.2.1, fun i hi => ⟨(h.2.2.1 i hi).1, (h.2.2.1 i hi).2.2, hwf i hi⟩, he, hO, hN⟩
theorem wfk_lt {n : Nat} {K R O N : Nat → Int} (h : WFk n n K R O N) : ∀ j, j < n → ∀ i, i < j → K i < K j
  | 0, _, i, hi => by omega
  | j + 1, hj, i, hi => by
    have h1 := ((h (j + 1) hj).2.1 (by omega)).1
    rw [Nat.add_sub_cancel] at h1
    by_cases e : i = j
    · subst e; exact h1
    · exact Int.lt_trans (wfk_lt h j (by omega) i (by omega)) h1
theorem wfk_inj {n : Nat} {K R O N : Nat → Int} (h : WFk n n K R O N) : Inj K n := fun i j hi hj e => by
  rcases Nat.lt_trichotomy i j with l | l | l
  · have := wfk_lt h j hj i l; omega
  · exact l
  · have := wfk_lt h i hi j l; omega
theorem St.next {w w' : World} {b m n : Nat} {o nw : Int} {f : Int → Option Nat} {K R O N : Nat → Int} {p : Nat → Nat} (h : St w b m n o nw f K R O N p) (hb : Below w.heap.size w w') : St w' b m n o nw f K R O N p :=
  ⟨row_next h.1 hb, h.2.1.next hb, fun i hi => ⟨(h.2.2.1 i hi).1, (h.2.2.1 i hi).2.1, row_next (h.2.2.1 i hi).2.2 hb⟩, h.2.2.2⟩
theorem Sl.congr {kd : IntKind} {w : World} {g off n : Nat} {z z' : Nat → Int} (h : Sl kd w g off n z) (hz : ∀ i, i < n → z i = z' i) : Sl kd w g off n z' := ⟨h.1, fun i hi => by rw [← hz i hi]; exact h.2 i hi⟩
theorem Rep.congr {w : World} {L n : Nat} {K R K' R' : Nat → Int} (h : Rep w L n K R) (hk : ∀ i, i < n → K i = K' i) (hr : ∀ i, i < n → R i = R' i) : Rep w L n K' R' := by
  obtain ⟨b, m, o, nw, f, p, O, N, h1, h2, h3, h4, h5, h6⟩ := h
  refine ⟨b, m, o, nw, f, p, O, N, h1, h2, fun i hi => ?_, fun h0 => ?_, fun i h0 hi => ?_, fun i hi => ?_⟩
  · obtain ⟨e1, e2, e3⟩ := h3 i hi
    rw [hk i hi] at e1 e3
    rw [hr i hi] at e2
    exact ⟨e1, e2, e3⟩
  · rw [← hk 0 h0, ← hk (n - 1) (by omega)]; exact h4 h0
  · rw [← hk (i - 1) (by omega)]; exact h5 i h0 hi
  · rw [← hk (i + 1) hi]; exact h6 i hi
end Go.Proofs.Qxb6617417a.Sn
