import Derived.Test.Qxb6617417aJo3
namespace Go.Proofs.Qxb6617417a.Jo
open Go.RowKit

set_option maxHeartbeats 1000000 in
theorem bytes24_small (a b c d : ByteArray) (ha : a.size ≤ 65536) (hb : b.size ≤ 65536) (hc : c.size ≤ 65536) (hd : d.size ≤ 65536) (w : World) :
    Calls Try.prog 24 #[.string a, .string b, .string c, .string d] w fun e w' => e = .returned (.bool true) ∧ w' = w := by
  go_enter Try.func24, Try.ntmps24
  go_wp2
  go_ret
  exact ⟨rfl, rfl⟩
set_option maxHeartbeats 1000000 in
theorem bytes24_any (a b c d : ByteArray) (ha : a.size ≤ maxLen) (hb : b.size ≤ maxLen) (hc : c.size ≤ maxLen) (hd : d.size ≤ maxLen) (w : World) :
    Calls Try.prog 24 #[.string a, .string b, .string c, .string d] w fun e w' => (e = .returned (.bool true) ∨ e = .returned (.bool false)) ∧ w' = w := by
  unfold maxLen at ha hb hc hd
  go_enter Try.func24, Try.ntmps24
  go_wp2
  all_goals (go_ret; exact ⟨by first | exact Or.inl rfl | exact Or.inr rfl, rfl⟩)

/-- A string longer than 2^16: nothing is asked. -/
theorem free_long (a b c d : ByteArray) (ha : a.size ≤ maxLen) (hb : b.size ≤ maxLen) (hc : c.size ≤ maxLen) (hd : d.size ≤ maxLen) (h : 65536 < a.size ∨ 65536 < b.size ∨ 65536 < c.size ∨ 65536 < d.size) (w : World) :
    Calls Try.prog 7 #[.string a, .string b, .string c, .string d] w fun e w' => e = .returned (.bool true) ∧ Below w.heap.size w w' := by
  have C := hide (bytes24_any a b c d ha hb hc hd)
  unfold maxLen at ha hb hc hd
  by_cases h1 : 65536 < a.size
  · go_enter Try.func7, Try.ntmps7
    go_wp2_with (go_at_call 24; refine (C.out _).mono ?_; rintro e w' ⟨rfl | rfl, hw⟩ <;> obtain rfl := hw.symm)
    all_goals (go_ret; exact ⟨rfl, Below.refl _ _⟩)
  by_cases h2 : 65536 < b.size
  · go_enter Try.func7, Try.ntmps7
    go_wp2_with (go_at_call 24; refine (C.out _).mono ?_; rintro e w' ⟨rfl | rfl, hw⟩ <;> obtain rfl := hw.symm)
    all_goals (go_ret; exact ⟨rfl, Below.refl _ _⟩)
  by_cases h3 : 65536 < c.size
  · go_enter Try.func7, Try.ntmps7
    go_wp2_with (go_at_call 24; refine (C.out _).mono ?_; rintro e w' ⟨rfl | rfl, hw⟩ <;> obtain rfl := hw.symm)
    all_goals (go_ret; exact ⟨rfl, Below.refl _ _⟩)
  have h4 : 65536 < d.size := by omega
  go_enter Try.func7, Try.ntmps7
  go_wp2_with (go_at_call 24; refine (C.out _).mono ?_; rintro e w' ⟨rfl | rfl, hw⟩ <;> obtain rfl := hw.symm)
  all_goals (go_ret; exact ⟨rfl, Below.refl _ _⟩)

/-- One of the two is no range. -/
theorem free_bad (a b c d : ByteArray) (ha : a.size ≤ 65536) (hb : b.size ≤ 65536) (hc : c.size ≤ 65536) (hd : d.size ≤ 65536) (h : rOK a b = false ∨ rOK c d = false) (w : World) :
    Calls Try.prog 7 #[.string a, .string b, .string c, .string d] w fun e w' => e = .returned (.bool true) ∧ Below w.heap.size w w' := by
  cases h1 : rOK a b
  · go_enter Try.func7, Try.ntmps7
    go_wp2_with (first | (go_at_call 24; refine (bytes24_small a b c d ha hb hc hd _).mono ?_; rintro e w' ⟨rfl, hw⟩; obtain rfl := hw.symm) | (go_at_call 20; refine (rangeOK_any _ _ _).mono ?_; rintro e w' ⟨rfl, hw⟩; obtain rfl := hw.symm))
    go_ret
    exact ⟨rfl, Below.refl _ _⟩
  · have h2 : rOK c d = false := by rcases h with h | h; · rw [h1] at h; cases h
                                    · exact h
    clear h
    go_enter Try.func7, Try.ntmps7
    go_wp2_with (first | (go_at_call 24; refine (bytes24_small a b c d ha hb hc hd _).mono ?_; rintro e w' ⟨rfl, hw⟩; obtain rfl := hw.symm) | (go_at_call 20; refine (rangeOK_any _ _ _).mono ?_; rintro e w' ⟨rfl, hw⟩; obtain rfl := hw.symm))
    go_ret
    exact ⟨rfl, Below.refl _ _⟩

/-- What ZZJoin does, its answer under names of their own. -/
def JoinIs (a b c d lo hi : ByteArray) (ok : Bool) : Prop :=
  ∀ w : World, Calls Try.prog 21 #[.string a, .string b, .string c, .string d] w fun e w' => e = .returned (.tuple #[.string lo, .string hi, .bool ok]) ∧ Below w.heap.size w w'

set_option maxHeartbeats 2000000 in
set_option maxRecDepth 100000 in
theorem free_no (a b c d lo1 hi1 lo2 hi2 : ByteArray) (ha : a.size ≤ 65536) (hb : b.size ≤ 65536) (hc : c.size ≤ 65536) (hd : d.size ≤ 65536) (hr : rOK a b = true) (hs : rOK c d = true)
    (C1 : JoinIs a b c d lo1 hi1 false) (C2 : JoinIs c d a b lo2 hi2 false) (e1 : (lo1.toList == lo2.toList) = true) (e2 : (hi1.toList == hi2.toList) = true) (k1 : kIn a b c = false) (k2 : kIn c d a = false) (w : World) :
    Calls Try.prog 7 #[.string a, .string b, .string c, .string d] w fun e w' => e = .returned (.bool true) ∧ Below w.heap.size w w' := by
  go_enter Try.func7, Try.ntmps7
  go_wp2_with (first | (go_at_call 24; refine (bytes24_small a b c d ha hb hc hd _).mono ?_; rintro e w' ⟨rfl, hw⟩; obtain rfl := hw.symm) | (go_at_call 20; refine (rangeOK_any _ _ _).mono ?_; rintro e w' ⟨rfl, hw⟩; obtain rfl := hw.symm))
  refine (C1 w).mono ?_
  rintro e w1 ⟨rfl, hB⟩
  go_wp2_with fail
  refine (C2 w1).mono ?_
  rintro e w2 ⟨rfl, hb2⟩
  replace hB := below_transS hB hb2
  clear hb2
  go_wp2_with (go_at_call 22; refine (keyIn_any _ _ _ _).mono ?_; rintro e w' ⟨rfl, hw⟩; obtain rfl := hw.symm)
  go_ret
  exact ⟨rfl, hB⟩

set_option maxHeartbeats 2000000 in
set_option maxRecDepth 100000 in
theorem free_yes (a b c d lo1 hi1 lo2 hi2 la ha' lb hb' : ByteArray) (ha : a.size ≤ 65536) (hb : b.size ≤ 65536) (hc : c.size ≤ 65536) (hd : d.size ≤ 65536) (hr : rOK a b = true) (hs : rOK c d = true)
    (C1 : JoinIs a b c d lo1 hi1 true) (C2 : JoinIs c d a b lo2 hi2 true) (C3 : JoinIs lo1 hi1 a b la ha' true) (C4 : JoinIs lo1 hi1 c d lb hb' true)
    (e1 : (lo1.toList == lo2.toList) = true) (e2 : (hi1.toList == hi2.toList) = true) (e3 : (lo1.toList == (if Op.bytesLess c.toList a.toList = true then c else a).toList) = true)
    (e4 : (la.toList == lo1.toList) = true) (e5 : (ha'.toList == hi1.toList) = true) (e6 : (lb.toList == lo1.toList) = true) (e7 : (hb'.toList == hi1.toList) = true) (w : World) :
    Calls Try.prog 7 #[.string a, .string b, .string c, .string d] w fun e w' => e = .returned (.bool true) ∧ Below w.heap.size w w' := by
  have E3 := hide e3
  clear e3
  go_enter Try.func7, Try.ntmps7
  go_wp2_with (first | (go_at_call 24; refine (bytes24_small a b c d ha hb hc hd _).mono ?_; rintro e w' ⟨rfl, hw⟩; obtain rfl := hw.symm) | (go_at_call 20; refine (rangeOK_any _ _ _).mono ?_; rintro e w' ⟨rfl, hw⟩; obtain rfl := hw.symm))
  refine (C1 w).mono ?_
  rintro e w1 ⟨rfl, hB⟩
  go_wp2_with fail
  refine (C2 w1).mono ?_
  rintro e w2 ⟨rfl, hb2⟩
  replace hB := below_transS hB hb2
  clear hb2
  cases k1 : kIn a b c
  all_goals
    cases k2 : kIn c d a
    all_goals
      cases g : Op.bytesLess c.toList a.toList
      all_goals
        have e3 := E3.out
        simp only [g, if_true, if_false, Bool.false_eq_true] at e3
        go_wp2_with (go_at_call 22; refine (keyIn_any _ _ _ _).mono ?_; rintro e w' ⟨rfl, hw⟩; obtain rfl := hw.symm)
        refine (C3 _).mono ?_
        rintro e w3 ⟨rfl, hb2⟩
        replace hB := below_transS hB hb2
        clear hb2
        go_wp2_with fail
        refine (C4 _).mono ?_
        rintro e w4 ⟨rfl, hb2⟩
        replace hB := below_transS hB hb2
        clear hb2
        go_wp2
        go_ret
        exact ⟨rfl, hB⟩

theorem joinIs_jB (a b c d : ByteArray) : JoinIs a b c d (jB a b c d).1 (jB a b c d).2.1 (jB a b c d).2.2 := fun w => zzjoin_any a b c d w

/-- FnJoinIsOrderFreeAndAbsorbs, whatever strings came in. -/
theorem free_walk (a b c d : ByteArray) (ha : a.size ≤ maxLen) (hb : b.size ≤ maxLen) (hc : c.size ≤ maxLen) (hd : d.size ≤ maxLen) (w : World) :
    Calls Try.prog 7 #[.string a, .string b, .string c, .string d] w fun e w' => e = .returned (.bool true) ∧ Below w.heap.size w w' := by
  by_cases h : 65536 < a.size ∨ 65536 < b.size ∨ 65536 < c.size ∨ 65536 < d.size
  · exact free_long a b c d ha hb hc hd h w
  · by_cases h2 : rOK a b = false ∨ rOK c d = false
    · exact free_bad a b c d (by omega) (by omega) (by omega) (by omega) h2 w
    · have hr : rOK a b = true := by cases g : rOK a b; · exact absurd (Or.inl g) h2
                                     · rfl
      have hs : rOK c d = true := by cases g : rOK c d; · exact absurd (Or.inr g) h2
                                     · rfl
      obtain ⟨f1, f2, f3, f4, f5⟩ := order_free a b c d hr hs
      have C1 := joinIs_jB a b c d
      have C2 := joinIs_jB c d a b
      rw [f3] at C2
      cases g : (jB a b c d).2.2
      · rw [g] at C1 C2
        have k : (kIn a b c || kIn c d a) = false := by
          cases k : (kIn a b c || kIn c d a)
          · rfl
          · have := f4 k; rw [g] at this; cases this
        rw [Bool.or_eq_false_iff] at k
        exact free_no a b c d _ _ _ _ (by omega) (by omega) (by omega) (by omega) hr hs C1 C2 f1 f2 k.1 k.2 w
      · rw [g] at C1 C2
        obtain ⟨q1, ⟨q2, q3, q4⟩, ⟨q5, q6, q7⟩⟩ := f5 g
        have C3 := joinIs_jB (jB a b c d).1 (jB a b c d).2.1 a b
        have C4 := joinIs_jB (jB a b c d).1 (jB a b c d).2.1 c d
        rw [q2] at C3
        rw [q5] at C4
        exact free_yes a b c d _ _ _ _ _ _ _ _ (by omega) (by omega) (by omega) (by omega) hr hs C1 C2 C3 C4 f1 f2 q1 q3 q4 q6 q7 w
end Go.Proofs.Qxb6617417a.Jo
