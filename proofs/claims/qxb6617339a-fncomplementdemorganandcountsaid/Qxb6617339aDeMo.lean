import Derived.Test.Qxb6617339aCount
namespace Go.Proofs.Qxb6617339a
open Go.RowKit

/-! ### The plain laws of '|', '&' and '^' on words -/
theorem word_bv (a : Int) (h0 : 0 ≤ a) (h1 : a < 18446744073709551616) : ∃ x : BitVec 64, a = (x.toNat : Int) := by
  obtain ⟨n, rfl⟩ := Int.eq_ofNat_of_zero_le h0
  refine ⟨BitVec.ofNat 64 n, ?_⟩
  rw [BitVec.toNat_ofNat, Nat.mod_eq_of_lt (by omega)]

theorem ofInt_toNat64 (x : BitVec 64) : BitVec.ofInt 64 (x.toNat : Int) = x := by
  apply BitVec.eq_of_toNat_eq
  rw [ofInt_u64 x.toNat (by have := x.isLt; omega)]

theorem wrap_toNat (x : BitVec 64) : IntKind.u64.wrap (x.toNat : Int) = (x.toNat : Int) := by
  have := x.isLt
  simp [IntKind.wrap, IntKind.bits, IntKind.signed]
  omega

theorem or_bv (x y : BitVec 64) : bits .or .u64 (x.toNat : Int) (y.toNat : Int) = ((x ||| y).toNat : Int) := by
  show IntKind.u64.wrap ((BitVec.ofInt 64 (x.toNat : Int) ||| BitVec.ofInt 64 (y.toNat : Int)).toNat : Int) = _
  rw [ofInt_toNat64, ofInt_toNat64, wrap_toNat]
theorem and_bv (x y : BitVec 64) : bits .and .u64 (x.toNat : Int) (y.toNat : Int) = ((x &&& y).toNat : Int) := by
  show IntKind.u64.wrap ((BitVec.ofInt 64 (x.toNat : Int) &&& BitVec.ofInt 64 (y.toNat : Int)).toNat : Int) = _
  rw [ofInt_toNat64, ofInt_toNat64, wrap_toNat]
theorem not_bv (x : BitVec 64) : notW (x.toNat : Int) = ((~~~ x).toNat : Int) := by
  have := x.isLt
  rw [BitVec.toNat_not]; unfold notW; omega

theorem or_word (a b : Int) (a0 : 0 ≤ a) (a1 : a < 18446744073709551616) (b0 : 0 ≤ b) (b1 : b < 18446744073709551616) : 0 ≤ bits .or .u64 a b ∧ bits .or .u64 a b < 18446744073709551616 := by
  obtain ⟨x, rfl⟩ := word_bv a a0 a1
  obtain ⟨y, rfl⟩ := word_bv b b0 b1
  rw [or_bv]; have := (x ||| y).isLt; omega
theorem and_word (a b : Int) (a0 : 0 ≤ a) (a1 : a < 18446744073709551616) (b0 : 0 ≤ b) (b1 : b < 18446744073709551616) : 0 ≤ bits .and .u64 a b ∧ bits .and .u64 a b < 18446744073709551616 := by
  obtain ⟨x, rfl⟩ := word_bv a a0 a1
  obtain ⟨y, rfl⟩ := word_bv b b0 b1
  rw [and_bv]; have := (x &&& y).isLt; omega

theorem not_or_w (a b : Int) (a0 : 0 ≤ a) (a1 : a < 18446744073709551616) (b0 : 0 ≤ b) (b1 : b < 18446744073709551616) :
    bits .and .u64 (notW a) (notW b) = notW (bits .or .u64 a b) := by
  obtain ⟨x, rfl⟩ := word_bv a a0 a1
  obtain ⟨y, rfl⟩ := word_bv b b0 b1
  rw [or_bv, not_bv, not_bv, not_bv, and_bv, BitVec.not_or]
theorem not_and_w (a b : Int) (a0 : 0 ≤ a) (a1 : a < 18446744073709551616) (b0 : 0 ≤ b) (b1 : b < 18446744073709551616) :
    bits .or .u64 (notW a) (notW b) = notW (bits .and .u64 a b) := by
  obtain ⟨x, rfl⟩ := word_bv a a0 a1
  obtain ⟨y, rfl⟩ := word_bv b b0 b1
  rw [and_bv, not_bv, not_bv, not_bv, or_bv, BitVec.not_and]

theorem words4 {a b c d : Int} (h : Words [a, b, c, d]) : (0 ≤ a ∧ a < 18446744073709551616) ∧ (0 ≤ b ∧ b < 18446744073709551616) ∧ (0 ≤ c ∧ c < 18446744073709551616) ∧ (0 ≤ d ∧ d < 18446744073709551616) := by
  have := h.2
  simpa only [List.mem_cons, List.not_mem_nil, or_false, forall_eq_or_imp, forall_eq] using this
theorem words4_mk {a b c d : Int} (h : (0 ≤ a ∧ a < 18446744073709551616) ∧ (0 ≤ b ∧ b < 18446744073709551616) ∧ (0 ≤ c ∧ c < 18446744073709551616) ∧ (0 ≤ d ∧ d < 18446744073709551616)) : Words [a, b, c, d] := by
  refine ⟨rfl, ?_⟩
  simpa only [List.mem_cons, List.not_mem_nil, or_false, forall_eq_or_imp, forall_eq] using h

theorem wrap_sub (m n : Nat) (h : n + m = 256) : ((n : Int) == IntKind.i64.wrap (256 - (m : Int))) = true := by
  rw [beq_iff_eq]
  simp [IntKind.wrap, IntKind.bits, IntKind.signed]
  omega

theorem bcell {W w1 : World} (hb : Below W.heap.size W w1) : (∀ b o, b < W.heap.size → w1.cell? ⟨b, o, none⟩ = W.cell? ⟨b, o, none⟩) :=
  fun b o h => hb.cell (p := ⟨b, o, none⟩) h

/-- Block n holds the four words a, b, c, d. -/
def Row4 (w : World) (n : Nat) (a b c d : Int) : Prop :=
  n < w.heap.size ∧ w.cell? ⟨n, 0, none⟩ = some (.int .u64 a) ∧ w.cell? ⟨n, 1, none⟩ = some (.int .u64 b) ∧ w.cell? ⟨n, 2, none⟩ = some (.int .u64 c) ∧ w.cell? ⟨n, 3, none⟩ = some (.int .u64 d)

theorem Row4.next {W w1 : World} {n : Nat} {a b c d : Int} (h : Row4 W n a b c d) (hb : Below W.heap.size W w1) : Row4 w1 n a b c d := by
  obtain ⟨h0, h1, h2, h3, h4⟩ := h
  have hc := bcell hb
  exact ⟨Nat.lt_of_lt_of_le h0 hb.size, by rw [hc _ _ h0, h1], by rw [hc _ _ h0, h2], by rw [hc _ _ h0, h3], by rw [hc _ _ h0, h4]⟩
theorem Row4.alloc {W : World} {n : Nat} {a b c d : Int} (h : Row4 W n a b c d) (o : Obj) : Row4 (W.alloc o) n a b c d :=
  h.next ((Below.refl _ _).alloc (Nat.le_refl _) o)
theorem Row4.drew {W : World} {n : Nat} {a b c d : Int} (h : Row4 W n a b c d) : Row4 W.drew n a b c d := h
theorem Row4.new (W : World) (a b c d : Int) : Row4 (W.alloc (.cells #[.int .u64 a, .int .u64 b, .int .u64 c, .int .u64 d] 23)) W.heap.size a b c d :=
  ⟨by simp, by simp [go_sem], by simp [go_sem], by simp [go_sem], by simp [go_sem]⟩

theorem zzcomplement_b (x0 x1 x2 x3 : Int) (hw : Words [x0, x1, x2, x3]) (w : World) :
    Calls Try.prog 7 #[.agg #[.int .u64 x0, .int .u64 x1, .int .u64 x2, .int .u64 x3]] w fun e w' =>
      e = .returned (.agg #[.int .u64 (notW x0), .int .u64 (notW x1), .int .u64 (notW x2), .int .u64 (notW x3)]) ∧ Below w.heap.size w w' := by
  refine (zzcomplement_w x0 x1 x2 x3 hw w).mono ?_
  rintro e w' ⟨rfl, o1, o2, o3, o4, rfl⟩
  exact ⟨rfl, below_allocS (below_allocS (below_allocS (below_allocS (Below.refl _ _) _) _) _) _⟩

end Go.Proofs.Qxb6617339a
