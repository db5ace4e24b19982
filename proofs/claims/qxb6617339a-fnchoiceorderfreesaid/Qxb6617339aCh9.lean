import Derived.Test.Qxb6617339aCh5
import Derived.Deep.DeepFit
namespace Go.Proofs.Qxb6617339a.Ch
open Go.RowKit Go.Deep

/-! ### The plain laws of a swap -/
def upd {α : Type} (f : Nat → α) (i : Nat) (v : α) (k : Nat) : α := if k = i then v else f k
/-- Elements i and j exchanged. -/
def sw {α : Type} (f : Nat → α) (i j : Nat) : Nat → α := upd (upd f i (f j)) j (f i)

theorem sumTo_upd_out (S : Nat → Int) (i : Nat) (v : Int) (n : Nat) (h : n ≤ i) : sumTo (upd S i v) n = sumTo S n := by
  induction n with
  | zero => rfl
  | succ n ih =>
    simp only [sumTo]
    rw [ih (by omega)]
    simp [upd, show n ≠ i by omega]
theorem sumTo_upd (S : Nat → Int) (i : Nat) (v : Int) (n : Nat) (h : i < n) : sumTo (upd S i v) n = sumTo S n - S i + v := by
  induction n with
  | zero => omega
  | succ n ih =>
    simp only [sumTo]
    by_cases e : i = n
    · subst e
      rw [sumTo_upd_out S i v i (Nat.le_refl _)]
      simp [upd]
    · rw [ih (by omega)]
      simp [upd, show n ≠ i by omega]; omega
theorem sumTo_sw (S : Nat → Int) (i j n : Nat) (hi : i < n) (hj : j < n) : sumTo (sw S i j) n = sumTo S n := by
  unfold sw
  rw [sumTo_upd _ j _ n hj, sumTo_upd _ i _ n hi]
  have : upd S i (S j) j = S j := by unfold upd; split <;> simp_all
  rw [this]; omega
theorem anyTo_iff (B : Nat → Bool) (n : Nat) : anyTo B n = true ↔ ∃ k, k < n ∧ B k = true := by
  induction n with
  | zero => simp [anyTo]
  | succ n ih =>
    simp only [anyTo, Bool.or_eq_true, ih]
    constructor
    · rintro (⟨k, hk, h⟩ | h)
      · exact ⟨k, by omega, h⟩
      · exact ⟨n, by omega, h⟩
    · rintro ⟨k, hk, h⟩
      by_cases e : k = n
      · subst e; exact Or.inr h
      · exact Or.inl ⟨k, by omega, h⟩
theorem sw_at {α : Type} (f : Nat → α) (i j k : Nat) : sw f i j k = f (if k = j then i else if k = i then j else k) := by
  unfold sw upd
  by_cases e1 : k = j
  · simp [e1]
  · by_cases e2 : k = i
    · subst e2; simp [e1]
    · simp [e1, e2]
theorem sw_lt (i j k n : Nat) (hi : i < n) (hj : j < n) (hk : k < n) : (if k = j then i else if k = i then j else k) < n := by
  split
  · exact hi
  · split
    · exact hj
    · exact hk
theorem anyTo_sw_le (B : Nat → Bool) (i j n : Nat) (hi : i < n) (hj : j < n) (h : anyTo (sw B i j) n = true) : anyTo B n = true := by
  obtain ⟨k, hk, h⟩ := (anyTo_iff _ _).1 h
  rw [sw_at] at h
  exact (anyTo_iff _ _).2 ⟨_, sw_lt i j k n hi hj hk, h⟩
theorem sw_sw {α : Type} (f : Nat → α) (i j : Nat) : sw (sw f i j) i j = f := by
  funext k
  rw [sw_at, sw_at]
  congr 1
  by_cases e1 : k = j <;> by_cases e2 : k = i <;> by_cases e3 : i = j <;> simp_all
theorem anyTo_sw (B : Nat → Bool) (i j n : Nat) (hi : i < n) (hj : j < n) : anyTo (sw B i j) n = anyTo B n := by
  rw [Bool.eq_iff_iff]
  refine ⟨anyTo_sw_le B i j n hi hj, fun h => ?_⟩
  have := anyTo_sw_le (sw B i j) i j n hi hj
  rw [sw_sw] at this
  exact this h
theorem csz_sw (S : Nat → Int) (i j n : Nat) (hi : i < n) (hj : j < n) : csz (sw S i j) n = csz S n := by
  unfold csz; rw [sumTo_sw S i j n hi hj]
theorem sw_bd (S : Nat → Int) (i j n : Nat) (hi : i < n) (hj : j < n) (h : ∀ k, k < n → 0 ≤ S k ∧ S k ≤ 131073) : ∀ k, k < n → 0 ≤ sw S i j k ∧ sw S i j k ≤ 131073 := fun k hk => by
  rw [sw_at]; exact h _ (sw_lt i j k n hi hj hk)
theorem Terms.sw {w : World} {n : Nat} {ps : Nat → Nat} {S : Nat → Int} {B : Nat → Bool} (h : Terms w n ps S B) {i j : Nat} (hi : i < n) (hj : j < n) : Terms w n (Ch.sw ps i j) (Ch.sw S i j) (Ch.sw B i j) := fun k hk => by
  rw [sw_at, sw_at, sw_at]; exact h _ (sw_lt i j k n hi hj hk)

/-! ### The early ways out -/
theorem bytes6_any (a : Option Addr) (n cap : Nat) (x y : Int) (hn : n ≤ 65536) (w : World) :
    Calls Try.prog 17 #[.slice a n cap, .int .i64 x, .int .i64 y] w fun e w' => e = .returned (.bool true) ∧ w' = w := by
  go_enter Try.func17, Try.ntmps17
  go_wp2
  go_ret
  exact ⟨rfl, rfl⟩
theorem bytes6_no (a : Option Addr) (n cap : Nat) (x y : Int) (hm : n ≤ maxLen) (hn : 65536 < n) (w : World) :
    Calls Try.prog 17 #[.slice a n cap, .int .i64 x, .int .i64 y] w fun e w' => (e = .returned (.bool true) ∨ e = .returned (.bool false)) ∧ w' = w := by
  unfold maxLen at hm
  go_enter Try.func17, Try.ntmps17
  go_wp2
  all_goals (go_ret; exact ⟨by first | exact Or.inl rfl | exact Or.inr rfl, rfl⟩)
theorem free_out (a : Option Addr) (n cap : Nat) (x y : Int) (hm : n ≤ maxLen) (hn : n < 2 ∨ 65536 < n) (w : World) :
    Calls Try.prog 6 #[.slice a n cap, .int .i64 x, .int .i64 y] w fun e w' => e = .returned (.bool true) ∧ Below w.heap.size w w' := by
  rcases hn with hn | hn
  · go_enter Try.func6, Try.ntmps6
    go_wp2_with (go_at_call 17; refine (bytes6_any a n cap x y (by omega) _).mono ?_; rintro e w' ⟨rfl, hw⟩; obtain rfl := hw.symm)
    go_ret
    exact ⟨rfl, Below.refl _ _⟩
  · have hm' := hm
    unfold maxLen at hm'
    go_enter Try.func6, Try.ntmps6
    go_wp2_with (go_at_call 17; refine (bytes6_no a n cap x y hm hn _).mono ?_; rintro e w' ⟨rfl | rfl, hw⟩ <;> obtain rfl := hw.symm)
    all_goals (go_ret; exact ⟨rfl, Below.refl _ _⟩)
/-- i or j lies outside. -/
theorem free_off (a : Option Addr) (n cap : Nat) (x y : Int) (hn2 : 2 ≤ n) (hn : n ≤ 65536) (hxy : x < 0 ∨ (n : Int) ≤ x ∨ y < 0 ∨ (n : Int) ≤ y) (w : World) :
    Calls Try.prog 6 #[.slice a n cap, .int .i64 x, .int .i64 y] w fun e w' => e = .returned (.bool true) ∧ Below w.heap.size w w' := by
  by_cases h1 : x < 0
  · go_enter Try.func6, Try.ntmps6
    go_wp2_with (go_at_call 17; refine (bytes6_any a n cap x y (by omega) _).mono ?_; rintro e w' ⟨rfl, hw⟩; obtain rfl := hw.symm)
    go_ret
    exact ⟨rfl, Below.refl _ _⟩
  by_cases h2 : (n : Int) ≤ x
  · go_enter Try.func6, Try.ntmps6
    go_wp2_with (go_at_call 17; refine (bytes6_any a n cap x y (by omega) _).mono ?_; rintro e w' ⟨rfl, hw⟩; obtain rfl := hw.symm)
    go_ret
    exact ⟨rfl, Below.refl _ _⟩
  by_cases h3 : y < 0
  · go_enter Try.func6, Try.ntmps6
    go_wp2_with (go_at_call 17; refine (bytes6_any a n cap x y (by omega) _).mono ?_; rintro e w' ⟨rfl, hw⟩; obtain rfl := hw.symm)
    go_ret
    exact ⟨rfl, Below.refl _ _⟩
  have h4 : (n : Int) ≤ y := by omega
  go_enter Try.func6, Try.ntmps6
  go_wp2_with (go_at_call 17; refine (bytes6_any a n cap x y (by omega) _).mono ?_; rintro e w' ⟨rfl, hw⟩; obtain rfl := hw.symm)
  go_ret
  exact ⟨rfl, Below.refl _ _⟩

/-! ### A row of ZTerms of the call's own -/
/-- Cell o of a row of ZTerms. -/
def pc (S : Nat → Int) (B : Nat → Bool) (o : Nat) : Value := if o % 2 = 0 then .int .i64 (S (o / 2)) else .bool (B (o / 2))
/-- .. of which the first k have been filled. -/
def pck (S : Nat → Int) (B : Nat → Bool) (k : Nat) : Nat → Value := pc (fun i => if i < k then S i else 0) (fun i => if i < k then B i else false)

theorem info32 : (Try.prog.info? 32).map (fun i => (i.zero, i.size, i.bytes)) = some (some (.agg #[.int .i64 0, .bool false]), 2, 16) := by kernel_rfl
theorem make32 (n : Nat) (hn : n ≤ 65536) (w : World) : (Instr.makeSlice 29 (.int .i64 (n : Int)) (.int .i64 (n : Int))).run Try.prog w = .ok (.slice (some ⟨w.heap.size, 0, none⟩) n n) (w.alloc (.cells (madeCells #[.int .i64 0, .bool false] (n * 2)) 32)) := by
  obtain ⟨i, hi, hz⟩ := Option.map_eq_some_iff.1 info32
  simp only [Prod.mk.injEq] at hz
  obtain ⟨h1, h2, h3⟩ := hz
  have h := run_make (P := Try.prog) w 29 32 i _ Try.underlying29 hi h1 .i64 .i64 n n (by omega) (Int.le_refl _) (by rw [h3]; omega) (by omega)
  simp only [Int.toNat_natCast, h2] at h
  exact h
theorem made32_row (w : World) (n : Nat) (S : Nat → Int) (B : Nat → Bool) : (w.alloc (.cells (madeCells #[.int .i64 0, .bool false] (n * 2)) 32)).rowIs w.heap.size 32 (n * 2) (pck S B 0) :=
  ⟨_, blk_alloc_new _ _, size_madeCells _ _, fun i hi => by
    have : i % 2 = 0 ∨ i % 2 = 1 := by omega
    rcases this with h | h <;> simp [madeCells, hi, pck, pc, h]⟩
theorem pck_set {w : World} {g n k : Nat} {S : Nat → Int} {B : Nat → Bool} (h : w.rowIs g 32 (n * 2) (pck S B k)) :
    ((w.setCell ⟨g, k * 2, none⟩ (.int .i64 (S k))).setCell ⟨g, k * 2 + 1, none⟩ (.bool (B k))).rowIs g 32 (n * 2) (pck S B (k + 1)) := by
  refine ((h.set (k * 2) _).set (k * 2 + 1) _).congr fun o ho => ?_
  unfold pck pc
  have : o % 2 = 0 ∨ o % 2 = 1 := by omega
  by_cases e1 : o = k * 2 + 1
  · subst e1
    simp [show (k * 2 + 1) % 2 = 1 by omega, show (k * 2 + 1) / 2 = k by omega]
  · by_cases e2 : o = k * 2
    · subst e2
      simp [show (k * 2) / 2 = k by omega]
    · have e3 : (o / 2 < k + 1) = (o / 2 < k) := by apply propext; omega
      simp only [e1, e2, if_false, e3]
theorem pc_set {w : World} {g n i : Nat} {S : Nat → Int} {B : Nat → Bool} {s : Int} {b : Bool} (h : w.rowIs g 32 (n * 2) (pc S B)) :
    ((w.setCell ⟨g, i * 2, none⟩ (.int .i64 s)).setCell ⟨g, i * 2 + 1, none⟩ (.bool b)).rowIs g 32 (n * 2) (pc (upd S i s) (upd B i b)) := by
  refine ((h.set (i * 2) _).set (i * 2 + 1) _).congr fun o ho => ?_
  unfold pc upd
  have : o % 2 = 0 ∨ o % 2 = 1 := by omega
  by_cases e1 : o = i * 2 + 1
  · subst e1
    simp [show (i * 2 + 1) % 2 = 1 by omega, show (i * 2 + 1) / 2 = i by omega]
  · by_cases e2 : o = i * 2
    · subst e2
      simp [show (i * 2) / 2 = i by omega]
    · simp only [e1, e2, if_false]
      rcases this with h | h
      · simp [h, show o / 2 ≠ i by omega]
      · simp [h, show o / 2 ≠ i by omega]
theorem subs_of_row {w : World} {g n : Nat} {S : Nat → Int} {B : Nat → Bool} (h : w.rowIs g 32 (n * 2) (pc S B)) : Subs w g 0 n S B :=
  ⟨h.lt, fun i hi => by
    have h0 := h.cell (i := i * 2) (by omega)
    have h1 := h.cell (i := i * 2 + 1) (by omega)
    simp only [pc, show i * 2 % 2 = 0 by omega, show (i * 2 + 1) % 2 = 1 by omega, show i * 2 / 2 = i by omega, show (i * 2 + 1) / 2 = i by omega, if_true, Nat.one_ne_zero, if_false] at h0 h1
    rw [Nat.zero_add]
    exact ⟨h0, h1⟩⟩
theorem pc_cells {w : World} {g n : Nat} {S : Nat → Int} {B : Nat → Bool} (h : w.rowIs g 32 (n * 2) (pc S B)) {i : Nat} (hi : i < n) :
    w.cell? ⟨g, i * 2, none⟩ = some (.int .i64 (S i)) ∧ w.cell? ⟨g, i * 2 + 1, none⟩ = some (.bool (B i)) := by
  have := (subs_of_row h).2 i hi
  rw [Nat.zero_add] at this
  exact this
theorem ptr_set {w : World} {g n i : Nat} {ps : Nat → Nat} {q : Nat} (h : w.rowIs g 35 n (fun k => .pointer (some ⟨ps k, 0, none⟩))) :
    (w.setCell ⟨g, i, none⟩ (.pointer (some ⟨q, 0, none⟩))).rowIs g 35 n (fun k => .pointer (some ⟨upd ps i q k, 0, none⟩)) := by
  refine (h.set i _).congr fun o ho => ?_
  unfold upd
  by_cases e : o = i <;> simp [e]

end Go.Proofs.Qxb6617339a.Ch
