import Derived.Test.Qxb6617417aUn3
import Derived.Test.Qxb6617417aUn4
namespace Go.Proofs.Qxb6617417a.Jo
open Go.RowKit

theorem un_yes (a b c d k lo hi : ByteArray) (ha : a.size ≤ 65536) (hb : b.size ≤ 65536) (hc : c.size ≤ 65536) (hd : d.size ≤ 65536) (hk : k.size ≤ 65536) (hr : rOK a b = true) (hs : rOK c d = true) (C : JoinOf a b c d lo hi true) (e : true = ((kIn a b c || kIn c d a) || adB a b c d)) (g0 : rOK lo hi = true)
    (u0 : kIn lo hi k = (kIn a b k || kIn c d k)) (u1 : kIn lo hi a = (kIn a b a || kIn c d a)) (u2 : kIn lo hi b = (kIn a b b || kIn c d b)) (u3 : kIn lo hi c = (kIn a b c || kIn c d c)) (u4 : kIn lo hi d = (kIn a b d || kIn c d d)) (w : World) :
    Calls Try.prog 6 #[.string a, .string b, .string c, .string d, .string k] w fun e w' => e = .returned (.bool true) ∧ Below w.heap.size w w' := by
  cases y1 : kIn a b c
  · cases y2 : kIn c d a
    · cases x1 : b.toList.isEmpty
      · cases x2 : (b.toList == c.toList)
        · cases x3 : d.toList.isEmpty
          · cases x4 : (d.toList == a.toList)
            · simp [adB, y1, y2, x1, x2, x3, x4] at e
            · exact un_c6 a b c d k lo hi ha hb hc hd hk hr hs C g0 u0 u1 u2 u3 u4 y1 y2 x1 x2 x3 x4 w
          · simp [adB, y1, y2, x1, x2, x3] at e
        · exact un_c4 a b c d k lo hi ha hb hc hd hk hr hs C g0 u0 u1 u2 u3 u4 y1 y2 x1 x2 w
      · cases x2 : d.toList.isEmpty
        · cases x3 : (d.toList == a.toList)
          · simp [adB, y1, y2, x1, x2, x3] at e
          · exact un_c2 a b c d k lo hi ha hb hc hd hk hr hs C g0 u0 u1 u2 u3 u4 y1 y2 x1 x2 x3 w
        · simp [adB, y1, y2, x1, x2] at e
    · cases x1 : b.toList.isEmpty
      · cases x2 : (b.toList == c.toList)
        · cases x3 : d.toList.isEmpty
          · cases x4 : (d.toList == a.toList)
            · exact un_b7 a b c d k lo hi ha hb hc hd hk hr hs C g0 u0 u1 u2 u3 u4 y1 y2 x1 x2 x3 x4 w
            · exact un_b6 a b c d k lo hi ha hb hc hd hk hr hs C g0 u0 u1 u2 u3 u4 y1 y2 x1 x2 x3 x4 w
          · exact un_b5 a b c d k lo hi ha hb hc hd hk hr hs C g0 u0 u1 u2 u3 u4 y1 y2 x1 x2 x3 w
        · exact un_b4 a b c d k lo hi ha hb hc hd hk hr hs C g0 u0 u1 u2 u3 u4 y1 y2 x1 x2 w
      · cases x2 : d.toList.isEmpty
        · cases x3 : (d.toList == a.toList)
          · exact un_b3 a b c d k lo hi ha hb hc hd hk hr hs C g0 u0 u1 u2 u3 u4 y1 y2 x1 x2 x3 w
          · exact un_b2 a b c d k lo hi ha hb hc hd hk hr hs C g0 u0 u1 u2 u3 u4 y1 y2 x1 x2 x3 w
        · exact un_b1 a b c d k lo hi ha hb hc hd hk hr hs C g0 u0 u1 u2 u3 u4 y1 y2 x1 x2 w
  · cases x1 : b.toList.isEmpty
    · cases x2 : (b.toList == c.toList)
      · cases x3 : d.toList.isEmpty
        · cases x4 : (d.toList == a.toList)
          · exact un_a7 a b c d k lo hi ha hb hc hd hk hr hs C g0 u0 u1 u2 u3 u4 y1 x1 x2 x3 x4 w
          · exact un_a6 a b c d k lo hi ha hb hc hd hk hr hs C g0 u0 u1 u2 u3 u4 y1 x1 x2 x3 x4 w
        · exact un_a5 a b c d k lo hi ha hb hc hd hk hr hs C g0 u0 u1 u2 u3 u4 y1 x1 x2 x3 w
      · exact un_a4 a b c d k lo hi ha hb hc hd hk hr hs C g0 u0 u1 u2 u3 u4 y1 x1 x2 w
    · cases x2 : d.toList.isEmpty
      · cases x3 : (d.toList == a.toList)
        · exact un_a3 a b c d k lo hi ha hb hc hd hk hr hs C g0 u0 u1 u2 u3 u4 y1 x1 x2 x3 w
        · exact un_a2 a b c d k lo hi ha hb hc hd hk hr hs C g0 u0 u1 u2 u3 u4 y1 x1 x2 x3 w
      · exact un_a1 a b c d k lo hi ha hb hc hd hk hr hs C g0 u0 u1 u2 u3 u4 y1 x1 x2 w
theorem un_no (a b c d k lo hi : ByteArray) (ha : a.size ≤ 65536) (hb : b.size ≤ 65536) (hc : c.size ≤ 65536) (hd : d.size ≤ 65536) (hk : k.size ≤ 65536) (hr : rOK a b = true) (hs : rOK c d = true) (C : JoinOf a b c d lo hi false) (e : false = ((kIn a b c || kIn c d a) || adB a b c d)) (g1 : lo.toList.isEmpty = true) (g2 : hi.toList.isEmpty = true) (w : World) :
    Calls Try.prog 6 #[.string a, .string b, .string c, .string d, .string k] w fun e w' => e = .returned (.bool true) ∧ Below w.heap.size w w' := by
  cases y1 : kIn a b c
  · cases y2 : kIn c d a
    · cases x1 : b.toList.isEmpty
      · cases x2 : (b.toList == c.toList)
        · cases x3 : d.toList.isEmpty
          · cases x4 : (d.toList == a.toList)
            · exact un_c7 a b c d k lo hi ha hb hc hd hk hr hs C g1 g2 y1 y2 x1 x2 x3 x4 w
            · simp [adB, y1, y2, x1, x2, x3, x4] at e
          · exact un_c5 a b c d k lo hi ha hb hc hd hk hr hs C g1 g2 y1 y2 x1 x2 x3 w
        · simp [adB, y1, y2, x1, x2] at e
      · cases x2 : d.toList.isEmpty
        · cases x3 : (d.toList == a.toList)
          · exact un_c3 a b c d k lo hi ha hb hc hd hk hr hs C g1 g2 y1 y2 x1 x2 x3 w
          · simp [adB, y1, y2, x1, x2, x3] at e
        · exact un_c1 a b c d k lo hi ha hb hc hd hk hr hs C g1 g2 y1 y2 x1 x2 w
    · cases x1 : b.toList.isEmpty
      · cases x2 : (b.toList == c.toList)
        · cases x3 : d.toList.isEmpty
          · cases x4 : (d.toList == a.toList)
            · simp [adB, y1, y2, x1, x2, x3, x4] at e
            · simp [adB, y1, y2, x1, x2, x3, x4] at e
          · simp [adB, y1, y2, x1, x2, x3] at e
        · simp [adB, y1, y2, x1, x2] at e
      · cases x2 : d.toList.isEmpty
        · cases x3 : (d.toList == a.toList)
          · simp [adB, y1, y2, x1, x2, x3] at e
          · simp [adB, y1, y2, x1, x2, x3] at e
        · simp [adB, y1, y2, x1, x2] at e
  · cases x1 : b.toList.isEmpty
    · cases x2 : (b.toList == c.toList)
      · cases x3 : d.toList.isEmpty
        · cases x4 : (d.toList == a.toList)
          · simp [adB, y1, x1, x2, x3, x4] at e
          · simp [adB, y1, x1, x2, x3, x4] at e
        · simp [adB, y1, x1, x2, x3] at e
      · simp [adB, y1, x1, x2] at e
    · cases x2 : d.toList.isEmpty
      · cases x3 : (d.toList == a.toList)
        · simp [adB, y1, x1, x2, x3] at e
        · simp [adB, y1, x1, x2, x3] at e
      · simp [adB, y1, x1, x2] at e

/-- FnJoinIsTheUnionOfTheKeys, whatever strings came in. -/
theorem un_walk (a b c d k : ByteArray) (ha : a.size ≤ maxLen) (hb : b.size ≤ maxLen) (hc : c.size ≤ maxLen) (hd : d.size ≤ maxLen) (hk : k.size ≤ maxLen) (w : World) :
    Calls Try.prog 6 #[.string a, .string b, .string c, .string d, .string k] w fun e w' => e = .returned (.bool true) ∧ Below w.heap.size w w' := by
  by_cases h : 65536 < a.size ∨ 65536 < b.size ∨ 65536 < c.size ∨ 65536 < d.size ∨ 65536 < k.size
  · exact un_long a b c d k ha hb hc hd hk h w
  · by_cases h2 : rOK a b = false ∨ rOK c d = false
    · exact un_bad a b c d k (by omega) (by omega) (by omega) (by omega) (by omega) h2 w
    · have hr : rOK a b = true := by
        cases g : rOK a b
        · exact absurd (Or.inl g) h2
        · rfl
      have hs : rOK c d = true := by
        cases g : rOK c d
        · exact absurd (Or.inr g) h2
        · rfl
      obtain ⟨f1, f2, f3⟩ := union_str a b c d k hr hs _ rfl
      have C : JoinOf a b c d (jB a b c d).1 (jB a b c d).2.1 (jB a b c d).2.2 := fun w => zzjoin_any a b c d w
      cases g : (jB a b c d).2.2
      · rw [g] at C f1
        exact un_no a b c d k _ _ (by omega) (by omega) (by omega) (by omega) (by omega) hr hs C f1 (f2 g).1 (f2 g).2 w
      · rw [g] at C f1
        obtain ⟨p1, p2⟩ := f3 g
        exact un_yes a b c d k _ _ (by omega) (by omega) (by omega) (by omega) (by omega) hr hs C f1 p1 (p2 k (by simp)) (p2 a (by simp)) (p2 b (by simp)) (p2 c (by simp)) (p2 d (by simp)) w
end Go.Proofs.Qxb6617417a.Jo
