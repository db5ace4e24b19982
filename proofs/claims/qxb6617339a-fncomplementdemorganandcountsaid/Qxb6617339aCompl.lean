import Derived.Test.Qxb6617339aRows
import Derived.WalkKit
import Derived.WalkSpells
import Derived.WalkLawsBesides
import Derived.Laws.DeepNot64
import Derived.Deep.RegionHeld3
namespace Go.Proofs.Qxb6617339a
open Go.RowKit

theorem hide {p : Prop} (h : p) : Hid p := h

/-- The complement of a word. -/
def notW (x : Int) : Int := 18446744073709551615 - x

theorem notW_bits (x : Int) (h0 : 0 ≤ x) (h1 : x < 18446744073709551616) : bits .xor .u64 IntKind.u64.max x = notW x := by
  obtain ⟨a, rfl⟩ := Int.eq_ofNat_of_zero_le h0
  show IntKind.u64.wrap ((BitVec.ofInt 64 IntKind.u64.max ^^^ BitVec.ofInt 64 (a : Int)).toNat : Int) = _
  have h2 : BitVec.ofInt 64 IntKind.u64.max = BitVec.allOnes 64 := by decide
  rw [h2, BitVec.allOnes_xor, BitVec.toNat_not, ofInt_u64 a (by omega)]
  simp [IntKind.wrap, IntKind.bits, IntKind.signed, notW]
  omega

set_option maxHeartbeats 400000 in
set_option maxRecDepth 100000 in
theorem complement_any (x0 x1 x2 x3 : Int) (w : World) :
    Calls Try.prog 18 #[.agg #[.int .u64 x0, .int .u64 x1, .int .u64 x2, .int .u64 x3]] w fun e w' =>
      e = .returned (.agg #[.int .u64 (bits .xor .u64 IntKind.u64.max x0), .int .u64 (bits .xor .u64 IntKind.u64.max x1), .int .u64 (bits .xor .u64 IntKind.u64.max x2), .int .u64 (bits .xor .u64 IntKind.u64.max x3)]) ∧ ∃ o1 o2, w' = (w.alloc (.cells o1 42)).alloc (.cells o2 42) := by
  go_enter Try.func18, Try.ntmps18
  go_wp2
  refine wp_loop_rounds 5 ?_
  rw [rounds_succ]
  go_wp2
  rw [rounds_succ]
  go_wp2
  rw [rounds_succ]
  go_wp2
  rw [rounds_succ]
  go_wp2
  rw [rounds_succ]
  go_wp2
  simp [bodyPost, results, Try.results18, go_sem]
  exact ⟨_, _, rfl⟩

set_option maxHeartbeats 400000 in
set_option maxRecDepth 100000 in
theorem zzcomplement_any (x0 x1 x2 x3 : Int) (w : World) :
    Calls Try.prog 7 #[.agg #[.int .u64 x0, .int .u64 x1, .int .u64 x2, .int .u64 x3]] w fun e w' =>
      e = .returned (.agg #[.int .u64 (bits .xor .u64 IntKind.u64.max x0), .int .u64 (bits .xor .u64 IntKind.u64.max x1), .int .u64 (bits .xor .u64 IntKind.u64.max x2), .int .u64 (bits .xor .u64 IntKind.u64.max x3)]) ∧ ∃ o1 o2 o3 o4, w' = (((w.alloc (.cells o1 23)).alloc (.cells o2 23)).alloc (.cells o3 42)).alloc (.cells o4 42) := by
  go_enter Try.func7, Try.ntmps7
  go_wp2_with (go_at_call 18; refine (complement_any _ _ _ _ _).mono ?_; rintro e w' ⟨rfl, o1, o2, rfl⟩)
  simp [bodyPost, results, Try.results7, go_sem]
  exact ⟨_, _, _, _, rfl⟩

/-- Byte 'b' is in the set of four words: bit b%64 of word b/64. -/
def hasP (l : List Int) (b : Nat) : Bool := (l.getD (b / 64) 0 / 2 ^ (b % 64)) % 2 == 1

theorem and_one (z : Int) (h0 : 0 ≤ z) (h1 : z < 18446744073709551616) : bits .and .u64 z 1 = z % 2 := by
  obtain ⟨a, rfl⟩ := Int.eq_ofNat_of_zero_le h0
  show IntKind.u64.wrap ((BitVec.ofInt 64 (a : Int) &&& BitVec.ofInt 64 (1 : Int)).toNat : Int) = _
  have e1 : BitVec.ofInt 64 (1 : Int) = BitVec.ofNat 64 1 := by decide
  rw [e1, BitVec.toNat_and, ofInt_u64 a (by omega)]
  simp [IntKind.wrap, IntKind.bits, IntKind.signed, Nat.and_one_is_mod]
  omega

theorem shr_bd (y : Int) (k : Nat) (h0 : 0 ≤ y) (h1 : y < 18446744073709551616) : 0 ≤ y / 2 ^ k ∧ y / 2 ^ k < 18446744073709551616 := by
  have hp : (0 : Int) < 2 ^ k := Int.pow_pos (by decide)
  refine ⟨Int.ediv_nonneg h0 (Int.le_of_lt hp), ?_⟩
  have := Int.ediv_le_self (2 ^ k) h0
  omega

/-- Four words. -/
def Words (l : List Int) : Prop := l.length = 4 ∧ ∀ x ∈ l, 0 ≤ x ∧ x < 18446744073709551616

theorem words_get {l : List Int} (h : Words l) (i : Nat) (hi : i < 4) : 0 ≤ l.getD i 0 ∧ l.getD i 0 < 18446744073709551616 := by
  have hl := h.1
  have : l.getD i 0 = l[i] := by simp [List.getD, List.getElem?_eq_getElem (by omega : i < l.length)]
  rw [this]
  exact h.2 _ (List.getElem_mem _)

theorem has_bits {l : List Int} (h : Words l) (b : Nat) (hb : b < 256) :
    (bits .and .u64 (l.getD (b / 64) 0 / 2 ^ (b % 64)) 1 == 1) = hasP l b := by
  obtain ⟨g0, g1⟩ := words_get h (b / 64) (by omega)
  obtain ⟨s0, s1⟩ := shr_bd _ (b % 64) g0 g1
  rw [and_one _ s0 s1]; rfl

theorem ret_bool {a b : Bool} (h : a = b) : Ending.returned (.bool a) = .returned (.bool b) := by rw [h]

set_option maxHeartbeats 400000 in
set_option maxRecDepth 100000 in
theorem has_any (x0 x1 x2 x3 : Int) (b : Nat) (hw : Words [x0, x1, x2, x3]) (hb : b < 256) (w : World) :
    Calls Try.prog 8 #[.agg #[.int .u64 x0, .int .u64 x1, .int .u64 x2, .int .u64 x3], .int .i64 b] w fun e w' =>
      e = .returned (.bool (hasP [x0, x1, x2, x3] b)) ∧ ∃ o, w' = w.alloc (.cells o 23) := by
  have hbits := has_bits hw b hb
  have HB := hide hbits
  clear hbits
  have h1 : (b : Int) < 256 := by omega
  have hy : [Value.int .u64 x0, Value.int .u64 x1, Value.int .u64 x2, Value.int .u64 x3][b / 64]? = some (Value.int .u64 ([x0, x1, x2, x3].getD (b / 64) 0)) := by
    have : b / 64 = 0 ∨ b / 64 = 1 ∨ b / 64 = 2 ∨ b / 64 = 3 := by omega
    rcases this with h | h | h | h <;> rw [h] <;> rfl
  generalize hY : [x0, x1, x2, x3].getD (b / 64) 0 = Y at hy HB
  have HY := hide hY
  clear hY
  go_enter Try.func8, Try.ntmps8
  go_wp2
  go_ret
  refine ⟨ret_bool ?_, _, rfl⟩
  rw [← HB.out]

/-! ### The plain laws -/
theorem bit_not (x : Int) (k : Nat) (h0 : 0 ≤ x) (h1 : x < 18446744073709551616) (hk : k < 64) :
    (notW x / 2 ^ k % 2 == 1) = !(x / 2 ^ k % 2 == 1) := by
  obtain ⟨a, rfl⟩ := Int.eq_ofNat_of_zero_le h0
  have ha : a < 2 ^ 64 := by omega
  have hn : notW (a : Int) = ((2 ^ 64 - (a + 1) : Nat) : Int) := by unfold notW; omega
  have hb := Nat.testBit_two_pow_sub_succ ha k
  rw [Nat.testBit_eq_decide_div_mod_eq, Nat.testBit_eq_decide_div_mod_eq] at hb
  rw [hn]
  have c1 : (((2 ^ 64 - (a + 1) : Nat) : Int) / 2 ^ k % 2) = (((2 ^ 64 - (a + 1)) / 2 ^ k % 2 : Nat) : Int) := by push_cast; rfl
  have c2 : ((a : Int) / 2 ^ k % 2) = ((a / 2 ^ k % 2 : Nat) : Int) := by push_cast; rfl
  rw [c1, c2]
  simp only [hk, decide_true, Bool.true_and] at hb
  generalize (2 ^ 64 - (a + 1)) / 2 ^ k % 2 = u at *
  generalize a / 2 ^ k % 2 = v at *
  by_cases g1 : u = 1 <;> by_cases g2 : v = 1 <;> simp_all <;> omega

theorem has_not {l : List Int} (h : Words l) (b : Nat) (hb : b < 256) : hasP (l.map notW) b = !hasP l b := by
  obtain ⟨g0, g1⟩ := words_get h (b / 64) (by omega)
  have hl := h.1
  have e : (l.map notW).getD (b / 64) 0 = notW (l.getD (b / 64) 0) := by
    simp [List.getD, List.getElem?_eq_getElem (by omega : b / 64 < l.length)]
  unfold hasP
  rw [e]
  exact bit_not _ _ g0 g1 (by omega)

theorem words_not {l : List Int} (h : Words l) : Words (l.map notW) := by
  refine ⟨by simp [h.1], ?_⟩
  intro x hx
  obtain ⟨y, hy, rfl⟩ := List.mem_map.1 hx
  have := h.2 y hy
  unfold notW; omega

theorem notW_notW (x : Int) : notW (notW x) = x := by unfold notW; omega

theorem zzcomplement_w (x0 x1 x2 x3 : Int) (hw : Words [x0, x1, x2, x3]) (w : World) :
    Calls Try.prog 7 #[.agg #[.int .u64 x0, .int .u64 x1, .int .u64 x2, .int .u64 x3]] w fun e w' =>
      e = .returned (.agg #[.int .u64 (notW x0), .int .u64 (notW x1), .int .u64 (notW x2), .int .u64 (notW x3)]) ∧ ∃ o1 o2 o3 o4, w' = (((w.alloc (.cells o1 23)).alloc (.cells o2 23)).alloc (.cells o3 42)).alloc (.cells o4 42) := by
  have h := hw.2
  simp only [List.mem_cons, List.not_mem_nil, or_false, forall_eq_or_imp, forall_eq] at h
  obtain ⟨⟨a0, a1⟩, ⟨b0, b1⟩, ⟨c0, c1⟩, ⟨d0, d1⟩⟩ := h
  have := zzcomplement_any x0 x1 x2 x3 w
  rw [notW_bits x0 a0 a1, notW_bits x1 b0 b1, notW_bits x2 c0 c1, notW_bits x3 d0 d1] at this
  exact this
end Go.Proofs.Qxb6617339a
