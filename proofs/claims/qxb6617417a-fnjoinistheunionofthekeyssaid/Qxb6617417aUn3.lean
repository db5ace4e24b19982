import Derived.Test.Qxb6617417aUn2
namespace Go.Proofs.Qxb6617417a.Jo
open Go.RowKit

set_option maxHeartbeats 2000000 in
set_option maxRecDepth 100000 in
theorem un_a1 (a b c d k lo hi : ByteArray) (ha : a.size ≤ 65536) (hb : b.size ≤ 65536) (hc : c.size ≤ 65536) (hd : d.size ≤ 65536) (hk : k.size ≤ 65536) (hr : rOK a b = true) (hs : rOK c d = true) (C1 : JoinOf a b c d lo hi true) (g0 : rOK lo hi = true) (u0 : kIn lo hi k = (kIn a b k || kIn c d k)) (u1 : kIn lo hi a = (kIn a b a || kIn c d a)) (u2 : kIn lo hi b = (kIn a b b || kIn c d b)) (u3 : kIn lo hi c = (kIn a b c || kIn c d c)) (u4 : kIn lo hi d = (kIn a b d || kIn c d d)) (y1 : kIn a b c = true) (x1 : b.toList.isEmpty = true) (x2 : d.toList.isEmpty = true) (w : World) :
    Calls Try.prog 6 #[.string a, .string b, .string c, .string d, .string k] w fun e w' => e = .returned (.bool true) ∧ Below w.heap.size w w' := by
  have U0 := hide (union_agrees lo hi a b c d k u0)
  have U1 := hide (union_agrees lo hi a b c d a u1)
  have U2 := hide (union_agrees lo hi a b c d b u2)
  have U3 := hide (union_agrees lo hi a b c d c u3)
  have U4 := hide (union_agrees lo hi a b c d d u4)
  clear u0 u1 u2 u3 u4
  go_enter Try.func6, Try.ntmps6
  go_wp2_with (first | (go_at_call 19; refine (bytes19_small a b c d k ha hb hc hd hk _).mono ?_; rintro e w' ⟨rfl, hw⟩; obtain rfl := hw.symm) | (go_at_call 20; refine (rangeOK_any _ _ _).mono ?_; rintro e w' ⟨rfl, hw⟩; obtain rfl := hw.symm))
  refine (C1 w).mono ?_
  rintro e w1 ⟨rfl, hB⟩
  go_wp2_with (first | (go_at_call 22; refine (keyIn_any _ _ _ _).mono ?_; rintro e w' ⟨rfl, hw⟩; obtain rfl := hw.symm) | (go_at_call 20; refine (rangeOK_any _ _ _).mono ?_; rintro e w' ⟨rfl, hw⟩; obtain rfl := hw.symm))
  refine (U0.out _).mono ?_
  rintro e w' ⟨rfl, hw⟩
  obtain rfl := hw.symm
  go_wp2_with fail
  refine (U1.out _).mono ?_
  rintro e w' ⟨rfl, hw⟩
  obtain rfl := hw.symm
  go_wp2_with fail
  refine (U2.out _).mono ?_
  rintro e w' ⟨rfl, hw⟩
  obtain rfl := hw.symm
  go_wp2_with fail
  refine (U3.out _).mono ?_
  rintro e w' ⟨rfl, hw⟩
  obtain rfl := hw.symm
  go_wp2_with fail
  refine (U4.out _).mono ?_
  rintro e w' ⟨rfl, hw⟩
  obtain rfl := hw.symm
  go_wp2
  go_ret
  exact ⟨rfl, hB⟩

set_option maxHeartbeats 2000000 in
set_option maxRecDepth 100000 in
theorem un_a2 (a b c d k lo hi : ByteArray) (ha : a.size ≤ 65536) (hb : b.size ≤ 65536) (hc : c.size ≤ 65536) (hd : d.size ≤ 65536) (hk : k.size ≤ 65536) (hr : rOK a b = true) (hs : rOK c d = true) (C1 : JoinOf a b c d lo hi true) (g0 : rOK lo hi = true) (u0 : kIn lo hi k = (kIn a b k || kIn c d k)) (u1 : kIn lo hi a = (kIn a b a || kIn c d a)) (u2 : kIn lo hi b = (kIn a b b || kIn c d b)) (u3 : kIn lo hi c = (kIn a b c || kIn c d c)) (u4 : kIn lo hi d = (kIn a b d || kIn c d d)) (y1 : kIn a b c = true) (x1 : b.toList.isEmpty = true) (x2 : d.toList.isEmpty = false) (x3 : (d.toList == a.toList) = true) (w : World) :
    Calls Try.prog 6 #[.string a, .string b, .string c, .string d, .string k] w fun e w' => e = .returned (.bool true) ∧ Below w.heap.size w w' := by
  have U0 := hide (union_agrees lo hi a b c d k u0)
  have U1 := hide (union_agrees lo hi a b c d a u1)
  have U2 := hide (union_agrees lo hi a b c d b u2)
  have U3 := hide (union_agrees lo hi a b c d c u3)
  have U4 := hide (union_agrees lo hi a b c d d u4)
  clear u0 u1 u2 u3 u4
  go_enter Try.func6, Try.ntmps6
  go_wp2_with (first | (go_at_call 19; refine (bytes19_small a b c d k ha hb hc hd hk _).mono ?_; rintro e w' ⟨rfl, hw⟩; obtain rfl := hw.symm) | (go_at_call 20; refine (rangeOK_any _ _ _).mono ?_; rintro e w' ⟨rfl, hw⟩; obtain rfl := hw.symm))
  refine (C1 w).mono ?_
  rintro e w1 ⟨rfl, hB⟩
  go_wp2_with (first | (go_at_call 22; refine (keyIn_any _ _ _ _).mono ?_; rintro e w' ⟨rfl, hw⟩; obtain rfl := hw.symm) | (go_at_call 20; refine (rangeOK_any _ _ _).mono ?_; rintro e w' ⟨rfl, hw⟩; obtain rfl := hw.symm))
  refine (U0.out _).mono ?_
  rintro e w' ⟨rfl, hw⟩
  obtain rfl := hw.symm
  go_wp2_with fail
  refine (U1.out _).mono ?_
  rintro e w' ⟨rfl, hw⟩
  obtain rfl := hw.symm
  go_wp2_with fail
  refine (U2.out _).mono ?_
  rintro e w' ⟨rfl, hw⟩
  obtain rfl := hw.symm
  go_wp2_with fail
  refine (U3.out _).mono ?_
  rintro e w' ⟨rfl, hw⟩
  obtain rfl := hw.symm
  go_wp2_with fail
  refine (U4.out _).mono ?_
  rintro e w' ⟨rfl, hw⟩
  obtain rfl := hw.symm
  go_wp2
  go_ret
  exact ⟨rfl, hB⟩

set_option maxHeartbeats 2000000 in
set_option maxRecDepth 100000 in
theorem un_a3 (a b c d k lo hi : ByteArray) (ha : a.size ≤ 65536) (hb : b.size ≤ 65536) (hc : c.size ≤ 65536) (hd : d.size ≤ 65536) (hk : k.size ≤ 65536) (hr : rOK a b = true) (hs : rOK c d = true) (C1 : JoinOf a b c d lo hi true) (g0 : rOK lo hi = true) (u0 : kIn lo hi k = (kIn a b k || kIn c d k)) (u1 : kIn lo hi a = (kIn a b a || kIn c d a)) (u2 : kIn lo hi b = (kIn a b b || kIn c d b)) (u3 : kIn lo hi c = (kIn a b c || kIn c d c)) (u4 : kIn lo hi d = (kIn a b d || kIn c d d)) (y1 : kIn a b c = true) (x1 : b.toList.isEmpty = true) (x2 : d.toList.isEmpty = false) (x3 : (d.toList == a.toList) = false) (w : World) :
    Calls Try.prog 6 #[.string a, .string b, .string c, .string d, .string k] w fun e w' => e = .returned (.bool true) ∧ Below w.heap.size w w' := by
  have U0 := hide (union_agrees lo hi a b c d k u0)
  have U1 := hide (union_agrees lo hi a b c d a u1)
  have U2 := hide (union_agrees lo hi a b c d b u2)
  have U3 := hide (union_agrees lo hi a b c d c u3)
  have U4 := hide (union_agrees lo hi a b c d d u4)
  clear u0 u1 u2 u3 u4
  go_enter Try.func6, Try.ntmps6
  go_wp2_with (first | (go_at_call 19; refine (bytes19_small a b c d k ha hb hc hd hk _).mono ?_; rintro e w' ⟨rfl, hw⟩; obtain rfl := hw.symm) | (go_at_call 20; refine (rangeOK_any _ _ _).mono ?_; rintro e w' ⟨rfl, hw⟩; obtain rfl := hw.symm))
  refine (C1 w).mono ?_
  rintro e w1 ⟨rfl, hB⟩
  go_wp2_with (first | (go_at_call 22; refine (keyIn_any _ _ _ _).mono ?_; rintro e w' ⟨rfl, hw⟩; obtain rfl := hw.symm) | (go_at_call 20; refine (rangeOK_any _ _ _).mono ?_; rintro e w' ⟨rfl, hw⟩; obtain rfl := hw.symm))
  refine (U0.out _).mono ?_
  rintro e w' ⟨rfl, hw⟩
  obtain rfl := hw.symm
  go_wp2_with fail
  refine (U1.out _).mono ?_
  rintro e w' ⟨rfl, hw⟩
  obtain rfl := hw.symm
  go_wp2_with fail
  refine (U2.out _).mono ?_
  rintro e w' ⟨rfl, hw⟩
  obtain rfl := hw.symm
  go_wp2_with fail
  refine (U3.out _).mono ?_
  rintro e w' ⟨rfl, hw⟩
  obtain rfl := hw.symm
  go_wp2_with fail
  refine (U4.out _).mono ?_
  rintro e w' ⟨rfl, hw⟩
  obtain rfl := hw.symm
  go_wp2
  go_ret
  exact ⟨rfl, hB⟩

set_option maxHeartbeats 2000000 in
set_option maxRecDepth 100000 in
theorem un_a4 (a b c d k lo hi : ByteArray) (ha : a.size ≤ 65536) (hb : b.size ≤ 65536) (hc : c.size ≤ 65536) (hd : d.size ≤ 65536) (hk : k.size ≤ 65536) (hr : rOK a b = true) (hs : rOK c d = true) (C1 : JoinOf a b c d lo hi true) (g0 : rOK lo hi = true) (u0 : kIn lo hi k = (kIn a b k || kIn c d k)) (u1 : kIn lo hi a = (kIn a b a || kIn c d a)) (u2 : kIn lo hi b = (kIn a b b || kIn c d b)) (u3 : kIn lo hi c = (kIn a b c || kIn c d c)) (u4 : kIn lo hi d = (kIn a b d || kIn c d d)) (y1 : kIn a b c = true) (x1 : b.toList.isEmpty = false) (x2 : (b.toList == c.toList) = true) (w : World) :
    Calls Try.prog 6 #[.string a, .string b, .string c, .string d, .string k] w fun e w' => e = .returned (.bool true) ∧ Below w.heap.size w w' := by
  have U0 := hide (union_agrees lo hi a b c d k u0)
  have U1 := hide (union_agrees lo hi a b c d a u1)
  have U2 := hide (union_agrees lo hi a b c d b u2)
  have U3 := hide (union_agrees lo hi a b c d c u3)
  have U4 := hide (union_agrees lo hi a b c d d u4)
  clear u0 u1 u2 u3 u4
  go_enter Try.func6, Try.ntmps6
  go_wp2_with (first | (go_at_call 19; refine (bytes19_small a b c d k ha hb hc hd hk _).mono ?_; rintro e w' ⟨rfl, hw⟩; obtain rfl := hw.symm) | (go_at_call 20; refine (rangeOK_any _ _ _).mono ?_; rintro e w' ⟨rfl, hw⟩; obtain rfl := hw.symm))
  refine (C1 w).mono ?_
  rintro e w1 ⟨rfl, hB⟩
  go_wp2_with (first | (go_at_call 22; refine (keyIn_any _ _ _ _).mono ?_; rintro e w' ⟨rfl, hw⟩; obtain rfl := hw.symm) | (go_at_call 20; refine (rangeOK_any _ _ _).mono ?_; rintro e w' ⟨rfl, hw⟩; obtain rfl := hw.symm))
  refine (U0.out _).mono ?_
  rintro e w' ⟨rfl, hw⟩
  obtain rfl := hw.symm
  go_wp2_with fail
  refine (U1.out _).mono ?_
  rintro e w' ⟨rfl, hw⟩
  obtain rfl := hw.symm
  go_wp2_with fail
  refine (U2.out _).mono ?_
  rintro e w' ⟨rfl, hw⟩
  obtain rfl := hw.symm
  go_wp2_with fail
  refine (U3.out _).mono ?_
  rintro e w' ⟨rfl, hw⟩
  obtain rfl := hw.symm
  go_wp2_with fail
  refine (U4.out _).mono ?_
  rintro e w' ⟨rfl, hw⟩
  obtain rfl := hw.symm
  go_wp2
  go_ret
  exact ⟨rfl, hB⟩

set_option maxHeartbeats 2000000 in
set_option maxRecDepth 100000 in
theorem un_a5 (a b c d k lo hi : ByteArray) (ha : a.size ≤ 65536) (hb : b.size ≤ 65536) (hc : c.size ≤ 65536) (hd : d.size ≤ 65536) (hk : k.size ≤ 65536) (hr : rOK a b = true) (hs : rOK c d = true) (C1 : JoinOf a b c d lo hi true) (g0 : rOK lo hi = true) (u0 : kIn lo hi k = (kIn a b k || kIn c d k)) (u1 : kIn lo hi a = (kIn a b a || kIn c d a)) (u2 : kIn lo hi b = (kIn a b b || kIn c d b)) (u3 : kIn lo hi c = (kIn a b c || kIn c d c)) (u4 : kIn lo hi d = (kIn a b d || kIn c d d)) (y1 : kIn a b c = true) (x1 : b.toList.isEmpty = false) (x2 : (b.toList == c.toList) = false) (x3 : d.toList.isEmpty = true) (w : World) :
    Calls Try.prog 6 #[.string a, .string b, .string c, .string d, .string k] w fun e w' => e = .returned (.bool true) ∧ Below w.heap.size w w' := by
  have U0 := hide (union_agrees lo hi a b c d k u0)
  have U1 := hide (union_agrees lo hi a b c d a u1)
  have U2 := hide (union_agrees lo hi a b c d b u2)
  have U3 := hide (union_agrees lo hi a b c d c u3)
  have U4 := hide (union_agrees lo hi a b c d d u4)
  clear u0 u1 u2 u3 u4
  go_enter Try.func6, Try.ntmps6
  go_wp2_with (first | (go_at_call 19; refine (bytes19_small a b c d k ha hb hc hd hk _).mono ?_; rintro e w' ⟨rfl, hw⟩; obtain rfl := hw.symm) | (go_at_call 20; refine (rangeOK_any _ _ _).mono ?_; rintro e w' ⟨rfl, hw⟩; obtain rfl := hw.symm))
  refine (C1 w).mono ?_
  rintro e w1 ⟨rfl, hB⟩
  go_wp2_with (first | (go_at_call 22; refine (keyIn_any _ _ _ _).mono ?_; rintro e w' ⟨rfl, hw⟩; obtain rfl := hw.symm) | (go_at_call 20; refine (rangeOK_any _ _ _).mono ?_; rintro e w' ⟨rfl, hw⟩; obtain rfl := hw.symm))
  refine (U0.out _).mono ?_
  rintro e w' ⟨rfl, hw⟩
  obtain rfl := hw.symm
  go_wp2_with fail
  refine (U1.out _).mono ?_
  rintro e w' ⟨rfl, hw⟩
  obtain rfl := hw.symm
  go_wp2_with fail
  refine (U2.out _).mono ?_
  rintro e w' ⟨rfl, hw⟩
  obtain rfl := hw.symm
  go_wp2_with fail
  refine (U3.out _).mono ?_
  rintro e w' ⟨rfl, hw⟩
  obtain rfl := hw.symm
  go_wp2_with fail
  refine (U4.out _).mono ?_
  rintro e w' ⟨rfl, hw⟩
  obtain rfl := hw.symm
  go_wp2
  go_ret
  exact ⟨rfl, hB⟩

set_option maxHeartbeats 2000000 in
set_option maxRecDepth 100000 in
theorem un_a6 (a b c d k lo hi : ByteArray) (ha : a.size ≤ 65536) (hb : b.size ≤ 65536) (hc : c.size ≤ 65536) (hd : d.size ≤ 65536) (hk : k.size ≤ 65536) (hr : rOK a b = true) (hs : rOK c d = true) (C1 : JoinOf a b c d lo hi true) (g0 : rOK lo hi = true) (u0 : kIn lo hi k = (kIn a b k || kIn c d k)) (u1 : kIn lo hi a = (kIn a b a || kIn c d a)) (u2 : kIn lo hi b = (kIn a b b || kIn c d b)) (u3 : kIn lo hi c = (kIn a b c || kIn c d c)) (u4 : kIn lo hi d = (kIn a b d || kIn c d d)) (y1 : kIn a b c = true) (x1 : b.toList.isEmpty = false) (x2 : (b.toList == c.toList) = false) (x3 : d.toList.isEmpty = false) (x4 : (d.toList == a.toList) = true) (w : World) :
    Calls Try.prog 6 #[.string a, .string b, .string c, .string d, .string k] w fun e w' => e = .returned (.bool true) ∧ Below w.heap.size w w' := by
  have U0 := hide (union_agrees lo hi a b c d k u0)
  have U1 := hide (union_agrees lo hi a b c d a u1)
  have U2 := hide (union_agrees lo hi a b c d b u2)
  have U3 := hide (union_agrees lo hi a b c d c u3)
  have U4 := hide (union_agrees lo hi a b c d d u4)
  clear u0 u1 u2 u3 u4
  go_enter Try.func6, Try.ntmps6
  go_wp2_with (first | (go_at_call 19; refine (bytes19_small a b c d k ha hb hc hd hk _).mono ?_; rintro e w' ⟨rfl, hw⟩; obtain rfl := hw.symm) | (go_at_call 20; refine (rangeOK_any _ _ _).mono ?_; rintro e w' ⟨rfl, hw⟩; obtain rfl := hw.symm))
  refine (C1 w).mono ?_
  rintro e w1 ⟨rfl, hB⟩
  go_wp2_with (first | (go_at_call 22; refine (keyIn_any _ _ _ _).mono ?_; rintro e w' ⟨rfl, hw⟩; obtain rfl := hw.symm) | (go_at_call 20; refine (rangeOK_any _ _ _).mono ?_; rintro e w' ⟨rfl, hw⟩; obtain rfl := hw.symm))
  refine (U0.out _).mono ?_
  rintro e w' ⟨rfl, hw⟩
  obtain rfl := hw.symm
  go_wp2_with fail
  refine (U1.out _).mono ?_
  rintro e w' ⟨rfl, hw⟩
  obtain rfl := hw.symm
  go_wp2_with fail
  refine (U2.out _).mono ?_
  rintro e w' ⟨rfl, hw⟩
  obtain rfl := hw.symm
  go_wp2_with fail
  refine (U3.out _).mono ?_
  rintro e w' ⟨rfl, hw⟩
  obtain rfl := hw.symm
  go_wp2_with fail
  refine (U4.out _).mono ?_
  rintro e w' ⟨rfl, hw⟩
  obtain rfl := hw.symm
  go_wp2
  go_ret
  exact ⟨rfl, hB⟩

set_option maxHeartbeats 2000000 in
set_option maxRecDepth 100000 in
theorem un_a7 (a b c d k lo hi : ByteArray) (ha : a.size ≤ 65536) (hb : b.size ≤ 65536) (hc : c.size ≤ 65536) (hd : d.size ≤ 65536) (hk : k.size ≤ 65536) (hr : rOK a b = true) (hs : rOK c d = true) (C1 : JoinOf a b c d lo hi true) (g0 : rOK lo hi = true) (u0 : kIn lo hi k = (kIn a b k || kIn c d k)) (u1 : kIn lo hi a = (kIn a b a || kIn c d a)) (u2 : kIn lo hi b = (kIn a b b || kIn c d b)) (u3 : kIn lo hi c = (kIn a b c || kIn c d c)) (u4 : kIn lo hi d = (kIn a b d || kIn c d d)) (y1 : kIn a b c = true) (x1 : b.toList.isEmpty = false) (x2 : (b.toList == c.toList) = false) (x3 : d.toList.isEmpty = false) (x4 : (d.toList == a.toList) = false) (w : World) :
    Calls Try.prog 6 #[.string a, .string b, .string c, .string d, .string k] w fun e w' => e = .returned (.bool true) ∧ Below w.heap.size w w' := by
  have U0 := hide (union_agrees lo hi a b c d k u0)
  have U1 := hide (union_agrees lo hi a b c d a u1)
  have U2 := hide (union_agrees lo hi a b c d b u2)
  have U3 := hide (union_agrees lo hi a b c d c u3)
  have U4 := hide (union_agrees lo hi a b c d d u4)
  clear u0 u1 u2 u3 u4
  go_enter Try.func6, Try.ntmps6
  go_wp2_with (first | (go_at_call 19; refine (bytes19_small a b c d k ha hb hc hd hk _).mono ?_; rintro e w' ⟨rfl, hw⟩; obtain rfl := hw.symm) | (go_at_call 20; refine (rangeOK_any _ _ _).mono ?_; rintro e w' ⟨rfl, hw⟩; obtain rfl := hw.symm))
  refine (C1 w).mono ?_
  rintro e w1 ⟨rfl, hB⟩
  go_wp2_with (first | (go_at_call 22; refine (keyIn_any _ _ _ _).mono ?_; rintro e w' ⟨rfl, hw⟩; obtain rfl := hw.symm) | (go_at_call 20; refine (rangeOK_any _ _ _).mono ?_; rintro e w' ⟨rfl, hw⟩; obtain rfl := hw.symm))
  refine (U0.out _).mono ?_
  rintro e w' ⟨rfl, hw⟩
  obtain rfl := hw.symm
  go_wp2_with fail
  refine (U1.out _).mono ?_
  rintro e w' ⟨rfl, hw⟩
  obtain rfl := hw.symm
  go_wp2_with fail
  refine (U2.out _).mono ?_
  rintro e w' ⟨rfl, hw⟩
  obtain rfl := hw.symm
  go_wp2_with fail
  refine (U3.out _).mono ?_
  rintro e w' ⟨rfl, hw⟩
  obtain rfl := hw.symm
  go_wp2_with fail
  refine (U4.out _).mono ?_
  rintro e w' ⟨rfl, hw⟩
  obtain rfl := hw.symm
  go_wp2
  go_ret
  exact ⟨rfl, hB⟩

end Go.Proofs.Qxb6617417a.Jo
