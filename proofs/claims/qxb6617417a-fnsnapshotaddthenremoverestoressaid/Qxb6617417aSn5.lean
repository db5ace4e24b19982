import Derived.Test.Qxb6617417aSn4
namespace Go.Proofs.Qxb6617417a.Sn
open Go.RowKit Go.Deep Go.Maps

/-- Which block the map holds at a key, behind k rounds of ZZMakeSnapshotList. -/
def fm (K : Nat → Int) (B : Nat) : Nat → Int → Option Nat
  | 0 => fun _ => none
  | k + 1 => updf (fm K B k) (K k) (some (B + 2 + k))
/-- No key twice among the first n. -/
def Inj (K : Nat → Int) (n : Nat) : Prop := ∀ i j, i < n → j < n → K i = K j → i = j
theorem fm_none (K : Nat → Int) (B : Nat) (x : Int) : ∀ k, (∀ i, i < k → K i ≠ x) → fm K B k x = none
  | 0, _ => rfl
  | k + 1, h => by
    unfold fm updf
    rw [if_neg (fun e => h k (by omega) e.symm)]
    exact fm_none K B x k (fun i hi => h i (by omega))
theorem fm_some (K : Nat → Int) (B : Nat) (n : Nat) (hK : Inj K n) : ∀ k, k ≤ n → ∀ i, i < k → fm K B k (K i) = some (B + 2 + i)
  | 0, _, i, hi => by omega
  | k + 1, hk, i, hi => by
    unfold fm updf
    by_cases e : i = k
    · subst e; simp
    · have : K i ≠ K k := fun h => e (hK i k (by omega) (by omega) h)
      rw [if_neg this]
      exact fm_some K B n hK k (by omega) i (by omega)

theorem turned_cells {w w' : World} {b : Nat} (h : w.mapTurned w' b) : ∀ q o, q ≠ b → w'.cell? ⟨q, o, none⟩ = w.cell? ⟨q, o, none⟩ :=
  fun q _ hq => World.cell?_of_block (w := w) (a := ⟨q, _, none⟩) (turned_block h hq)

theorem make_step (w wr w2 : World) (n k : Nat) (K R O N : Nat → Int) (o nw : Int) (hlt : k < n) (hK : Inj K n) (hB : Below w.heap.size w wr) (hsz : wr.heap.size = w.heap.size + 2 + k)
    (hl : wr.rowIs (w.heap.size + 1) 43 3 (lf w.heap.size o nw)) (hE : ∀ j, j < k → wr.rowIs (w.heap.size + 2 + j) 46 3 (ef (R j) (O j) (N j)))
    (hM2 : MapIs w2 w.heap.size (k + 1) (if (fm K w.heap.size k (K k)).isSome = true then k else k + 1) (updf (fm K w.heap.size k) (K k) (some wr.heap.size)))
    (ht2 : (wr.alloc (.cells #[.int .i64 (R k), .int .u64 (O k), .int .u64 (N k)] 46)).drew.mapTurned w2 w.heap.size) :
    Below w.heap.size w w2 ∧ w2.heap.size = w.heap.size + 2 + (k + 1) ∧ w2.rowIs (w.heap.size + 1) 43 3 (lf w.heap.size o nw) ∧ MapIs w2 w.heap.size (k + 1) (k + 1) (fm K w.heap.size (k + 1)) ∧
      ∀ j, j < k + 1 → w2.rowIs (w.heap.size + 2 + j) 46 3 (ef (R j) (O j) (N j)) := by
  have hnone : fm K w.heap.size k (K k) = none := fm_none K w.heap.size (K k) k (fun i hi e => by have := hK i k (by omega) hlt e; omega)
  rw [hnone] at hM2
  simp only [Option.isSome_none, Bool.false_eq_true, if_false] at hM2
  rw [hsz] at hM2
  have hnew := ef_new wr (R k) (O k) (N k)
  rw [hsz] at hnew
  have hb1 : Below wr.heap.size wr (wr.alloc (.cells #[.int .i64 (R k), .int .u64 (O k), .int .u64 (N k)] 46)).drew := (below_allocS (Below.refl _ _) _).drew
  refine ⟨turned_below ht2 (below_transS hB hb1) (Nat.le_trans hB.size hb1.size) (Nat.le_refl _), ?_, ?_, hM2, fun j hj => ?_⟩
  · rw [turned_size ht2]
    show (wr.alloc _).heap.size = _
    simp; omega
  · exact (row_next hl hb1).of_block (turned_block ht2 (by omega))
  · by_cases e : j = k
    · subst e
      exact (World.rowIs.drew hnew).of_block (turned_block ht2 (by omega))
    · exact (row_next (hE j (by omega)) hb1).of_block (turned_block ht2 (by omega))

theorem makeMap41 (x : Int) (w : World) : (Instr.makeMap 41 (some (.int .i64 x))).run Try.prog w = .ok (.map (some w.heap.size)) (w.alloc (.map #[] 0)) := by
  simp only [Instr.makeMap]
  simp only [Sem.run_bind, run_underlying Try.underlying41, Result.andThen_ok, asInt, asIntOf]
  simp

set_option maxHeartbeats 2000000 in
set_option maxRecDepth 100000 in
theorem make_any (gk ok gr orr go oo gn on n c0 c1 c2 c3 : Nat) (K R O N : Nat → Int) (o nw : Int) (hn1 : 1 ≤ n) (hn : n ≤ 32768) (hK : Inj K n) (hwf : ∀ i, i < n → (Lit.int .u64 (K i)).wf = true) (w : World)
    (hk : Sl .u64 w gk ok n K) (hr : Sl .i64 w gr orr n R) (ho : Sl .u64 w go oo n O) (hw : Sl .u64 w gn on n N) :
    Calls Try.prog 11 #[.slice (some ⟨gk, ok, none⟩) n c0, .slice (some ⟨gr, orr, none⟩) n c1, .slice (some ⟨go, oo, none⟩) n c2, .slice (some ⟨gn, on, none⟩) n c3, .int .u64 o, .int .u64 nw] w fun e w' =>
      e = .returned (.pointer (some ⟨w.heap.size + 1, 0, none⟩)) ∧ Below w.heap.size w w' ∧ w'.rowIs (w.heap.size + 1) 43 3 (lf w.heap.size o nw) ∧ MapIs w' w.heap.size n n (fm K w.heap.size n) ∧
        ∀ j, j < n → w'.rowIs (w.heap.size + 2 + j) 46 3 (ef (R j) (O j) (N j)) := by
  have HK := hide hk
  have HR := hide hr
  have HO := hide ho
  have HN := hide hw
  have HJ := hide hK
  have HF := hide hwf
  clear hk hr ho hw hK hwf
  have hmm := makeMap41
  go_enter Try.func11, Try.ntmps11
  go_wp2
  clear hmm
  go_loopw [14] (fun i wr => ∃ k : Nat, k ≤ n ∧ i = .int .i64 k ∧ Below w.heap.size w wr ∧ wr.heap.size = w.heap.size + 2 + k ∧ wr.rowIs (w.heap.size + 1) 43 3 (lf w.heap.size o nw) ∧ MapIs wr w.heap.size k k (fm K w.heap.size k) ∧
        ∀ j, j < k → wr.rowIs (w.heap.size + 2 + j) 46 3 (ef (R j) (O j) (N j))) (fun i _ => n - (intOf i).toNat)
  case atStart =>
    have hl := lf_new (w.alloc (.map #[] 0)) w.heap.size o nw
    have e : (w.alloc (.map #[] 0)).heap.size = w.heap.size + 1 := by simp
    rw [e] at hl
    exact ⟨0, Nat.zero_le _, rfl, below_allocS (below_allocS (Below.refl _ _) _) _, by simp, hl, (mapIs_made w).next (below_allocS (Below.refl _ _) _), fun j hj => absurd hj (Nat.not_lt_zero _)⟩
  case round =>
    obtain ⟨k, hk, rfl, hB, hsz, hl, hM, hE⟩ := hrel
    by_cases hlt : k < n
    · have x0 := (HK.out.next hB).2 k hlt
      have x1 := (HR.out.next hB).2 k hlt
      have x2 := (HO.out.next hB).2 k hlt
      have x3 := (HN.out.next hB).2 k hlt
      have g0 := (HK.out.next hB).1
      have g1 := (HR.out.next hB).1
      have g2 := (HO.out.next hB).1
      have g3 := (HN.out.next hB).1
      obtain ⟨y0, y1, y2⟩ := lf_cells hl
      have z0 := hl.lt
      obtain ⟨w2, hrun, hM2, ht2⟩ := MapIs.store ((hM.next (below_allocS (Below.refl _ _) (.cells #[.int .i64 (R k), .int .u64 (O k), .int .u64 (N k)] 46))).next (Below.refl _ _).drew) (by unfold maxLen; omega) (HF.out k hlt) wr.heap.size
      have R2 := hide (make_step w wr w2 n k K R O N o nw hlt HJ.out hB hsz hl hE hM2 ht2)
      have g0' : gk ≠ w.heap.size := by have := HK.out.1; omega
      have g1' : gr ≠ w.heap.size := by have := HR.out.1; omega
      have g2' : go ≠ w.heap.size := by have := HO.out.1; omega
      have g3' : gn ≠ w.heap.size := by have := HN.out.1; omega
      have hkeep := turned_cells ht2
      clear hsz hl hM hE hM2 ht2
      go_wp2
      go_region_held3 (fun w' => w'.cell? ⟨w.heap.size + 1, 0, none⟩ = some (.map (some w.heap.size)) ∧ w'.cell? ⟨gk, ok + k, none⟩ = some (.int .u64 (K k)) ∧ w'.cell? ⟨gr, orr + k, none⟩ = some (.int .i64 (R k)) ∧ w'.cell? ⟨go, oo + k, none⟩ = some (.int .u64 (O k)) ∧ w'.cell? ⟨gn, on + k, none⟩ = some (.int .u64 (N k))) (simp [*, go_sem]) (fail)
      go_wp2
      go_roundw
      case rel => exact ⟨k + 1, by omega, by go_num, R2.out⟩
      case measure => simp [intOf]; omega
    · obtain rfl : k = n := by omega
      go_wp2
      go_ret
      exact ⟨rfl, hB, hl, hM, hE⟩

set_option maxHeartbeats 1000000 in
set_option maxRecDepth 100000 in
theorem make_zero (a0 a1 a2 a3 : Option Addr) (c0 c1 c2 c3 : Nat) (o nw : Int) (w : World) :
    Calls Try.prog 11 #[.slice a0 0 c0, .slice a1 0 c1, .slice a2 0 c2, .slice a3 0 c3, .int .u64 o, .int .u64 nw] w fun e w' =>
      e = .returned (.pointer (some ⟨w.heap.size + 1, 0, none⟩)) ∧ Below w.heap.size w w' ∧ w'.rowIs (w.heap.size + 1) 43 3 (lf w.heap.size o nw) ∧ MapIs w' w.heap.size 0 0 (fun _ => none) := by
  have hmm := makeMap41
  go_enter Try.func11, Try.ntmps11
  go_wp2
  refine wp_loop_rounds 1 ?_
  rw [rounds_succ]
  go_wp2
  go_ret
  have hl := lf_new (w.alloc (.map #[] 0)) w.heap.size o nw
  have e : (w.alloc (.map #[] 0)).heap.size = w.heap.size + 1 := by simp
  rw [e] at hl
  exact ⟨rfl, below_allocS (below_allocS (Below.refl _ _) _) _, hl, (mapIs_made w).next (below_allocS (Below.refl _ _) _)⟩
end Go.Proofs.Qxb6617417a.Sn
