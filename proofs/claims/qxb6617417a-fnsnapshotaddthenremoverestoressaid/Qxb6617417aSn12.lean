import Derived.Test.Qxb6617417aSn11
namespace Go.Proofs.Qxb6617417a.Sn
open Go.RowKit Go.Deep Go.Maps

/-- What the walk is told of a slice of integers that came in: it is nil; or it leads to a row of `cap` cells, the numbers `zs`. -/
def IsRow (k : IntKind) (w : World) (a : Option Addr) (len cap : Nat) (zs : List Int) : Prop :=
  (a = none ∧ len = 0 ∧ cap = 0 ∧ zs = []) ∨
  ∃ x, a = some x ∧ len ≤ cap ∧ cap ≤ maxLen ∧ zs.length = cap ∧ (∀ i, i < zs.length → w.cell? (x.add i) = some (.int k (zs.getD i 0))) ∧ ∀ n ∈ zs, (Lit.int k n).wf = true

theorem IsRow.le {k : IntKind} {w : World} {a : Option Addr} {len cap : Nat} {zs : List Int} (h : IsRow k w a len cap zs) : len ≤ maxLen := by
  rcases h with ⟨_, rfl, _⟩ | ⟨x, _, h1, h2, _⟩
  · exact Nat.zero_le _
  · omega
theorem IsRow.sl {k : IntKind} {w : World} {a : Option Addr} {len cap : Nat} {zs : List Int} (h : IsRow k w a len cap zs) (hl : 1 ≤ len) :
    ∃ g off, a = some ⟨g, off, none⟩ ∧ Sl k w g off len (fun i => zs.getD i 0) ∧ ∀ i, i < len → (Lit.int k (zs.getD i 0)).wf = true := by
  rcases h with ⟨_, rfl, _⟩ | ⟨x, rfl, h1, h2, h3, h4, h5⟩
  · omega
  · have c0 := h4 0 (by omega)
    rw [show x.add 0 = x from by simp [Addr.add]] at c0
    have hs := World.cell?_spot c0
    obtain ⟨g, off, spot⟩ := x
    simp only at hs
    subst hs
    refine ⟨g, off, rfl, ⟨?_, fun i hi => ?_⟩, fun i hi => h5 _ ?_⟩
    · exact World.block_lt_of_cell? _ _ c0
    · have := h4 i (by omega)
      rw [Addr.add_lit] at this
      exact this
    · rw [List.getD_eq_getElem?_getD, List.getElem?_eq_getElem (by omega)]
      exact List.getElem_mem _

theorem s3_any (a0 : Option Addr) (len0 cap0 : Nat) (z0 : List Int) (a1 : Option Addr) (len1 cap1 : Nat) (z1 : List Int) (a2 : Option Addr) (len2 cap2 : Nat) (z2 : List Int) (a3 : Option Addr) (len3 cap3 : Nat) (z3 : List Int) (a4 a5 a6 : Int) (w : World)
    (w0 : IsRow .u64 w a0 len0 cap0 z0) (w1 : IsRow .i64 w a1 len1 cap1 z1) (w2 : IsRow .u64 w a2 len2 cap2 z2) (w3 : IsRow .u64 w a3 len3 cap3 z3) (w6 : (Lit.int .u64 a6).wf = true) :
    Calls Try.prog 3 #[.slice a0 len0 cap0, .slice a1 len1 cap1, .slice a2 len2 cap2, .slice a3 len3 cap3, .int .u64 a4, .int .u64 a5, .int .u64 a6] w fun e w' => e = .returned (.bool true) ∧ Below w.heap.size w w' := by
  by_cases hlong : 32768 < len0 ∨ 32768 < len1 ∨ 32768 < len2 ∨ 32768 < len3
  · exact s3_long a0 a1 a2 a3 len0 len1 len2 len3 cap0 cap1 cap2 cap3 a4 a5 a6 w0.le w1.le w2.le w3.le hlong w
  by_cases hmis : len1 ≠ len0 ∨ len2 ≠ len0 ∨ len3 ≠ len0
  · exact s3_mis a0 a1 a2 a3 len0 len1 len2 len3 cap0 cap1 cap2 cap3 a4 a5 a6 (by omega) (by omega) (by omega) (by omega) hmis w
  obtain rfl : len1 = len0 := by omega
  obtain rfl : len2 = len1 := by omega
  obtain rfl : len3 = len2 := by omega
  by_cases h0 : len3 = 0
  · subst h0
    exact s3_zero a0 a1 a2 a3 cap0 cap1 cap2 cap3 a4 a5 a6 w6 w
  obtain ⟨gk, ok, rfl, hk, fk⟩ := w0.sl (by omega)
  obtain ⟨gr, orr, rfl, hr, fr⟩ := w1.sl (by omega)
  obtain ⟨go, oo, rfl, ho, _⟩ := w2.sl (by omega)
  obtain ⟨gn, on, rfl, hn, _⟩ := w3.sl (by omega)
  have hmax := fr (len3 - 1) (by omega)
  have e : IntKind.i64.max = 9223372036854775807 := rfl
  simp only [Lit.wf, Bool.and_eq_true, decide_eq_true_eq, e] at hmax
  rcases Int.lt_trichotomy a6 (z0.getD (len3 - 1) 0) with h | rfl | h
  · exact s3_lt gk ok gr orr go oo gn on len3 cap0 cap1 cap2 cap3 _ _ _ _ a4 a5 a6 (by omega) (by omega) w hk hr ho hn h
  · by_cases hm : z1.getD (len3 - 1) 0 = 9223372036854775807
    · exact s3_max gk ok gr orr go oo gn on len3 cap0 cap1 cap2 cap3 (fun i => z0.getD i 0) _ _ _ a4 a5 (by omega) (by omega) w hk hr ho hn hm
    · exact s3_hit gk ok gr orr go oo gn on len3 cap0 cap1 cap2 cap3 (fun i => z0.getD i 0) (fun i => z1.getD i 0) _ _ a4 a5 (by omega) (by omega) w hk hr ho hn fk (show z1.getD (len3 - 1) 0 < 9223372036854775807 by omega)
  · exact s3_new gk ok gr orr go oo gn on len3 cap0 cap1 cap2 cap3 (fun i => z0.getD i 0) _ _ _ a4 a5 a6 (by omega) (by omega) w hk hr ho hn fk w6 h
end Go.Proofs.Qxb6617417a.Sn
