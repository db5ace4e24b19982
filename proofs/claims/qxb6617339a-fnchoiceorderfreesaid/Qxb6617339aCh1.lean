import Derived.Test.Qxb6617339aRows
import Derived.WalkKit
import Derived.WalkSpells
import Derived.WalkLawsBesides
import Derived.BigQuiet
import Derived.Deep.QuietTactic
import Derived.Deep.RegionHeld3
import Derived.Deep.RegionWith
import Derived.Deep.OwnRows
namespace Go.Proofs.Qxb6617339a.Ch
open Go.RowKit Go.Deep

theorem hide {p : Prop} (h : p) : Hid p := h

/-- The sum of the first k sizes; whether one of the first k flags is set. -/
def sumTo (S : Nat → Int) : Nat → Int
  | 0 => 0
  | k + 1 => sumTo S k + S k
def anyTo (B : Nat → Bool) : Nat → Bool
  | 0 => false
  | k + 1 => anyTo B k || B k

/-- The slice of n ZTerms at ⟨b, off⟩ holds the sizes S and the flags B. -/
def Subs (w : World) (b off n : Nat) (S : Nat → Int) (B : Nat → Bool) : Prop :=
  b < w.heap.size ∧ ∀ i, i < n → w.cell? ⟨b, off + i * 2, none⟩ = some (.int .i64 (S i)) ∧ w.cell? ⟨b, off + i * 2 + 1, none⟩ = some (.bool (B i))

theorem sumTo_bd (S : Nat → Int) (k : Nat) (n : Nat) (hn : k ≤ n) (h : ∀ i, i < n → 0 ≤ S i ∧ S i ≤ 131073) : 0 ≤ sumTo S k ∧ sumTo S k ≤ k * 131073 := by
  induction k with
  | zero => simp [sumTo]
  | succ k ih =>
    have := ih (by omega)
    have := h k (by omega)
    simp only [sumTo]; omega

theorem anyTo_hit (B : Nat → Bool) (k n : Nat) (hk : k < n) (h : B k = true) : anyTo B n = true := by
  induction n with
  | zero => omega
  | succ n ih =>
    by_cases e : k = n
    · subst e; simp [anyTo, h]
    · simp [anyTo, ih (by omega)]

theorem ret_bool {a b : Bool} (h : a = b) : Ending.returned (.bool a) = .returned (.bool b) := by rw [h]
theorem ret_int {k : IntKind} {a b : Int} (h : a = b) : Ending.returned (.int k a) = .returned (.int k b) := by rw [h]

set_option maxHeartbeats 400000 in
set_option maxRecDepth 100000 in
theorem anyBack_any (b off n cap : Nat) (S : Nat → Int) (B : Nat → Bool) (hn : n ≤ 65536) (w : World) (hs : Subs w b off n S B) :
    Calls Try.prog 23 #[.slice (some ⟨b, off, none⟩) n cap] w fun e w' => e = .returned (.bool (anyTo B n)) ∧ w' = w := by
  obtain ⟨_, hs⟩ := hs
  have HS := hide hs
  clear hs
  go_enter Try.func23, Try.ntmps23
  go_wp2
  go_loop [3] (fun i => ∃ k : Nat, k ≤ n ∧ i = .int .i64 k ∧ anyTo B k = false) (fun i => n - (intOf i).toNat)
  case atStart => exact ⟨0, Nat.zero_le _, rfl, rfl⟩
  case round =>
    obtain ⟨k, hk, rfl, hany⟩ := hrel
    have HA := hide hany
    clear hany
    by_cases hlt : k < n
    · obtain ⟨c0, c1⟩ := HS.out k hlt
      go_wp2
      · have hb : B k = true := by assumption
        go_ret
        exact ⟨ret_bool (anyTo_hit B k n hlt hb).symm, rfl⟩
      · have hb : B k = false := by assumption
        go_round
        case rel => exact ⟨k + 1, by omega, by go_num, by simp [anyTo, HA.out, hb]⟩
        case measure => simp [intOf]; omega
    · obtain rfl : k = n := by omega
      go_wp2
      go_ret
      exact ⟨ret_bool HA.out.symm, rfl⟩

/-- x, capped at MaxInstructions + 1. -/
def capS (x : Int) : Int := if 131073 < x then 131073 else x
/-- The documented size of an alternation. -/
def csz (S : Nat → Int) (n : Nat) : Int := capS ((n : Int) - 1 + sumTo S n)

set_option maxHeartbeats 400000 in
set_option maxRecDepth 100000 in
theorem choiceSize_any (b off n cap : Nat) (S : Nat → Int) (B : Nat → Bool) (hn : n ≤ 65536) (hS : ∀ i, i < n → 0 ≤ S i ∧ S i ≤ 131073) (w : World) (hs : Subs w b off n S B) :
    Calls Try.prog 22 #[.slice (some ⟨b, off, none⟩) n cap] w fun e w' => e = .returned (.int .i64 (csz S n)) ∧ w' = w := by
  obtain ⟨_, hs⟩ := hs
  have HS := hide hs
  have HB := hide hS
  clear hs hS
  go_enter Try.func22, Try.ntmps22
  go_wp2
  go_loop [3, 4] (fun t i => ∃ k : Nat, k ≤ n ∧ i = .int .i64 k ∧ t = .int .i64 ((n : Int) - 1 + sumTo S k)) (fun _ i => n - (intOf i).toNat)
  case atStart => exact ⟨0, Nat.zero_le _, rfl, by simp [sumTo]⟩
  case round =>
    obtain ⟨k, hk, rfl, rfl⟩ := hrel
    obtain ⟨s0, s1⟩ := sumTo_bd S k n hk HB.out
    by_cases hlt : k < n
    · obtain ⟨c0, c1⟩ := HS.out k hlt
      obtain ⟨b0, b1⟩ := HB.out k hlt
      go_wp2
      go_round
      case rel => exact ⟨k + 1, by omega, by go_num, by simp only [sumTo]; go_num⟩
      case measure => simp [intOf]; omega
    · obtain rfl : k = n := by omega
      go_wp2
      all_goals (go_ret; exact ⟨ret_int (by unfold csz capS; first | rw [if_pos (by assumption)] | rw [if_neg (by omega)]), rfl⟩)

set_option maxHeartbeats 400000 in
theorem addSizes_any (x y : Int) (h0 : 0 ≤ x) (h1 : x ≤ 131073) (h2 : 0 ≤ y) (h3 : y ≤ 131073) (w : World) :
    Calls Try.prog 25 #[.int .i64 x, .int .i64 y] w fun e w' => e = .returned (.int .i64 (capS (x + y))) ∧ w' = w := by
  go_enter Try.func25, Try.ntmps25
  go_wp2
  all_goals (go_ret; exact ⟨ret_int (by unfold capS; first | rw [if_pos (by assumption)] | rw [if_neg (by omega)]), rfl⟩)

theorem termSize_any (p : Nat) (s : Int) (w : World) (hc : w.cell? ⟨p, 6, none⟩ = some (.int .i64 s)) :
    Calls Try.prog 15 #[.pointer (some ⟨p, 0, none⟩)] w fun e w' => e = .returned (.int .i64 s) ∧ w' = w := by
  go_enter Try.func15, Try.ntmps15
  go_wp2
  go_ret
  exact ⟨rfl, rfl⟩
theorem termBack_any (p : Nat) (b : Bool) (w : World) (hc : w.cell? ⟨p, 3, none⟩ = some (.bool b)) :
    Calls Try.prog 16 #[.pointer (some ⟨p, 0, none⟩)] w fun e w' => e = .returned (.bool b) ∧ w' = w := by
  go_enter Try.func16, Try.ntmps16
  go_wp2
  go_ret
  exact ⟨rfl, rfl⟩
theorem termKind_any (p : Nat) (s : Int) (w : World) (hc : w.cell? ⟨p, 0, none⟩ = some (.int .u8 s)) :
    Calls Try.prog 21 #[.pointer (some ⟨p, 0, none⟩)] w fun e w' => e = .returned (.int .u8 s) ∧ w' = w := by
  go_enter Try.func21, Try.ntmps21
  go_wp2
  go_ret
  exact ⟨rfl, rfl⟩
theorem termSubs_any (p : Nat) (a : Option Addr) (n cap : Nat) (w : World) (hc : w.cell? ⟨p, 8, none⟩ = some (.slice a n cap)) :
    Calls Try.prog 24 #[.pointer (some ⟨p, 0, none⟩)] w fun e w' => e = .returned (.slice a n cap) ∧ w' = w := by
  go_enter Try.func24, Try.ntmps24
  go_wp2
  go_ret
  exact ⟨rfl, rfl⟩

/-- The cells of a Term: its kind, its flag, its size, its subterms. -/
def tcells (k : Int) (b : Bool) (s : Int) (v : Value) : Array Value :=
  #[.int .u8 k, .int .u8 0, .int .u8 0, .bool b, .int .i16 0, .int .i16 0, .int .i64 s, .pointer none, v]

theorem newTerm_any (s : Int) (b : Bool) (w : World) :
    Calls Try.prog 19 #[.int .i64 s, .bool b] w fun e w' => e = .returned (.pointer (some ⟨w.heap.size, 0, none⟩)) ∧ w' = w.alloc (.cells (tcells 0 b s (.slice none 0 0)) 55) := by
  go_enter Try.func19, Try.ntmps19
  go_wp2
  go_ret
  exact ⟨rfl, rfl⟩

theorem bcell {W w1 : World} (hb : Below W.heap.size W w1) : (∀ b o, b < W.heap.size → w1.cell? ⟨b, o, none⟩ = W.cell? ⟨b, o, none⟩) :=
  fun b o h => hb.cell (p := ⟨b, o, none⟩) h
theorem below_allocS {a w : World} (h : Below a.heap.size a w) (o : Obj) : Below a.heap.size a (w.alloc o) := h.alloc h.size o
theorem Below.transS {a b c : World} (h : Below a.heap.size a b) (k : Below b.heap.size b c) : Below a.heap.size a c := h.trans (k.mono h.size)

/-- A term's size and flag at block p. -/
def TermOK (w : World) (p : Nat) (s : Int) (b : Bool) : Prop :=
  p < w.heap.size ∧ w.cell? ⟨p, 6, none⟩ = some (.int .i64 s) ∧ w.cell? ⟨p, 3, none⟩ = some (.bool b)
theorem TermOK.next {W w1 : World} {p : Nat} {s : Int} {b : Bool} (h : TermOK W p s b) (hb : Below W.heap.size W w1) : TermOK w1 p s b :=
  ⟨Nat.lt_of_lt_of_le h.1 hb.size, by rw [bcell hb _ _ h.1]; exact h.2.1, by rw [bcell hb _ _ h.1]; exact h.2.2⟩
theorem TermOK.setOther {W : World} {p : Nat} {s : Int} {b : Bool} (h : TermOK W p s b) {a : Addr} (ha : p ≠ a.block) (v : Value) : TermOK (W.setCell a v) p s b := by
  have e : (W.setCell a v).heap[p]? = W.heap[p]? := Below.heap_setCell _ _ _ _ ha
  refine ⟨by simpa [World.setCell] using h.1, ?_, ?_⟩
  · rw [World.cell?_of_block (w := W) (a := ⟨p, 6, none⟩) e]; exact h.2.1
  · rw [World.cell?_of_block (w := W) (a := ⟨p, 3, none⟩) e]; exact h.2.2
theorem TermOK.new (W : World) (k : Int) (b : Bool) (s : Int) (v : Value) : TermOK (W.alloc (.cells (tcells k b s v) 55)) W.heap.size s b :=
  ⟨by simp, by simp [go_sem, tcells], by simp [go_sem, tcells]⟩

theorem Subs.next {W w1 : World} {b off n : Nat} {S : Nat → Int} {B : Nat → Bool} (h : Subs W b off n S B) (hb : Below W.heap.size W w1) : Subs w1 b off n S B :=
  ⟨Nat.lt_of_lt_of_le h.1 hb.size, fun i hi => ⟨by rw [bcell hb _ _ h.1]; exact (h.2 i hi).1, by rw [bcell hb _ _ h.1]; exact (h.2 i hi).2⟩⟩

/-- A slice of pointers to terms: n of them, from cell off of block g on. -/
def Ptrs (w : World) (g off n : Nat) (ps : Nat → Nat) : Prop :=
  g < w.heap.size ∧ ∀ i, i < n → w.cell? ⟨g, off + i, none⟩ = some (.pointer (some ⟨ps i, 0, none⟩))
theorem Ptrs.next {W w1 : World} {g off n : Nat} {ps : Nat → Nat} (h : Ptrs W g off n ps) (hb : Below W.heap.size W w1) : Ptrs w1 g off n ps :=
  ⟨Nat.lt_of_lt_of_le h.1 hb.size, fun i hi => by rw [bcell hb _ _ h.1]; exact h.2 i hi⟩
/-- The n terms at ps have the sizes S and the flags B. -/
def Terms (w : World) (n : Nat) (ps : Nat → Nat) (S : Nat → Int) (B : Nat → Bool) : Prop := ∀ i, i < n → TermOK w (ps i) (S i) (B i)
theorem Terms.next {W w1 : World} {n : Nat} {ps : Nat → Nat} {S : Nat → Int} {B : Nat → Bool} (h : Terms W n ps S B) (hb : Below W.heap.size W w1) : Terms w1 n ps S B :=
  fun i hi => (h i hi).next hb

theorem rowIs_next {W w1 : World} {g : Nat} {t : TypeId} {n : Nat} {f : Nat → Value} (h : W.rowIs g t n f) (hb : Below W.heap.size W w1) : w1.rowIs g t n f := h.of_block (hb.block _ h.lt)
theorem ptrs_of_row {W : World} {g n : Nat} {ps : Nat → Nat} (h : W.rowIs g 35 n (fun i => .pointer (some ⟨ps i, 0, none⟩))) : Ptrs W g 0 n ps :=
  ⟨h.lt, fun i hi => by simpa using h.cell hi⟩

end Go.Proofs.Qxb6617339a.Ch
