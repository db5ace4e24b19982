import Derived.Test.Qxb6617417aRows
import Derived.WalkKit
import Derived.WalkSpells
import Derived.WalkLawsBesides
import Derived.BigQuiet
import Derived.Deep.QuietTactic
import Derived.Deep.DeepFit
namespace Go.Proofs.Qxb6617417a.Jo
open Go.RowKit

theorem hide {p : Prop} (h : p) : Hid p := h
theorem ret_bool {a b : Bool} (h : a = b) : Ending.returned (.bool a) = .returned (.bool b) := by rw [h]
theorem bcell {W w1 : World} (hb : Below W.heap.size W w1) : (∀ b o, b < W.heap.size → w1.cell? ⟨b, o, none⟩ = W.cell? ⟨b, o, none⟩) :=
  fun b o h => hb.cell (p := ⟨b, o, none⟩) h
theorem below_allocS {a w : World} (h : Below a.heap.size a w) (o : Obj) : Below a.heap.size a (w.alloc o) := h.alloc h.size o
theorem below_transS {a b c : World} (h : Below a.heap.size a b) (k : Below b.heap.size b c) : Below a.heap.size a c := h.trans (k.mono h.size)

/-- rangeOK -/
def rOK (lo hi : ByteArray) : Bool := hi.toList.isEmpty || Op.bytesLess lo.toList hi.toList
/-- keyIn -/
def kIn (lo hi k : ByteArray) : Bool := (Op.bytesLess lo.toList k.toList || lo.toList == k.toList) && (hi.toList.isEmpty || Op.bytesLess k.toList hi.toList)

set_option maxHeartbeats 400000 in
theorem rangeOK_any (lo hi : ByteArray) (w : World) :
    Calls Try.prog 20 #[.string lo, .string hi] w fun e w' => e = .returned (.bool (rOK lo hi)) ∧ w' = w := by
  go_enter Try.func20, Try.ntmps20
  go_wp2
  all_goals (go_ret; exact ⟨ret_bool (by simp [rOK, *]), rfl⟩)
set_option maxHeartbeats 400000 in
theorem keyIn_any (lo hi k : ByteArray) (w : World) :
    Calls Try.prog 22 #[.string lo, .string hi, .string k] w fun e w' => e = .returned (.bool (kIn lo hi k)) ∧ w' = w := by
  go_enter Try.func22, Try.ntmps22
  go_wp2
  all_goals (go_ret; exact ⟨ret_bool (by simp_all [kIn]), rfl⟩)

/-- join, the lower range first -/
def jO (rl rh sl sh : ByteArray) : ByteArray × ByteArray × Bool :=
  if rh.toList.isEmpty = true then (rl, rh, true)
  else if Op.bytesLess rh.toList sl.toList = true then (⟨#[]⟩, ⟨#[]⟩, false)
  else if sh.toList.isEmpty = true then (rl, sh, true)
  else if (!Op.bytesLess sh.toList rh.toList && !(sh.toList == rh.toList)) = true then (rl, sh, true) else (rl, rh, true)
/-- join -/
def jB (rl rh sl sh : ByteArray) : ByteArray × ByteArray × Bool := if Op.bytesLess sl.toList rl.toList = true then jO sl sh rl rh else jO rl rh sl sh

set_option maxHeartbeats 1000000 in
set_option maxRecDepth 100000 in
theorem join_n1 (rl rh sl sh : ByteArray) (h1 : Op.bytesLess sl.toList rl.toList = false) (h2 : rh.toList.isEmpty = true) (w : World) :
    Calls Try.prog 30 #[.agg #[.string rl, .string rh], .agg #[.string sl, .string sh]] w fun e w' =>
      e = .returned (.tuple #[.agg #[.string rl, .string rh], .bool true]) ∧ Below w.heap.size w w' := by
  go_enter Try.func30, Try.ntmps30
  go_wp2
  exact bodyPost_ret (v := .tuple #[.agg #[.string rl, .string rh], .bool true]) (by simp [results, Try.results30, go_sem]) rfl ⟨rfl, below_allocS (below_allocS (below_allocS (Below.refl _ _) _) _) _⟩
set_option maxHeartbeats 1000000 in
set_option maxRecDepth 100000 in
theorem join_n2 (rl rh sl sh : ByteArray) (h1 : Op.bytesLess sl.toList rl.toList = false) (h2 : rh.toList.isEmpty = false) (h3 : Op.bytesLess rh.toList sl.toList = true) (w : World) :
    Calls Try.prog 30 #[.agg #[.string rl, .string rh], .agg #[.string sl, .string sh]] w fun e w' =>
      e = .returned (.tuple #[.agg #[.string ⟨#[]⟩, .string ⟨#[]⟩], .bool false]) ∧ Below w.heap.size w w' := by
  go_enter Try.func30, Try.ntmps30
  go_wp2
  exact bodyPost_ret (v := .tuple #[.agg #[.string ⟨#[]⟩, .string ⟨#[]⟩], .bool false]) (by simp [results, Try.results30, go_sem]) rfl ⟨rfl, below_allocS (below_allocS (below_allocS (Below.refl _ _) _) _) _⟩
set_option maxHeartbeats 1000000 in
set_option maxRecDepth 100000 in
theorem join_n3 (rl rh sl sh : ByteArray) (h1 : Op.bytesLess sl.toList rl.toList = false) (h2 : rh.toList.isEmpty = false) (h3 : Op.bytesLess rh.toList sl.toList = false) (h4 : sh.toList.isEmpty = true) (w : World) :
    Calls Try.prog 30 #[.agg #[.string rl, .string rh], .agg #[.string sl, .string sh]] w fun e w' =>
      e = .returned (.tuple #[.agg #[.string rl, .string sh], .bool true]) ∧ Below w.heap.size w w' := by
  go_enter Try.func30, Try.ntmps30
  go_wp2
  exact bodyPost_ret (v := .tuple #[.agg #[.string rl, .string sh], .bool true]) (by simp [results, Try.results30, go_sem]) rfl ⟨rfl, below_allocS (below_allocS (below_allocS (Below.refl _ _) _) _) _⟩
set_option maxHeartbeats 1000000 in
set_option maxRecDepth 100000 in
theorem join_n4 (rl rh sl sh : ByteArray) (h1 : Op.bytesLess sl.toList rl.toList = false) (h2 : rh.toList.isEmpty = false) (h3 : Op.bytesLess rh.toList sl.toList = false) (h4 : sh.toList.isEmpty = false) (h5 : (!Op.bytesLess sh.toList rh.toList && !(sh.toList == rh.toList)) = true) (w : World) :
    Calls Try.prog 30 #[.agg #[.string rl, .string rh], .agg #[.string sl, .string sh]] w fun e w' =>
      e = .returned (.tuple #[.agg #[.string rl, .string sh], .bool true]) ∧ Below w.heap.size w w' := by
  go_enter Try.func30, Try.ntmps30
  go_wp2
  exact bodyPost_ret (v := .tuple #[.agg #[.string rl, .string sh], .bool true]) (by simp [results, Try.results30, go_sem]) rfl ⟨rfl, below_allocS (below_allocS (below_allocS (Below.refl _ _) _) _) _⟩
set_option maxHeartbeats 1000000 in
set_option maxRecDepth 100000 in
theorem join_n5 (rl rh sl sh : ByteArray) (h1 : Op.bytesLess sl.toList rl.toList = false) (h2 : rh.toList.isEmpty = false) (h3 : Op.bytesLess rh.toList sl.toList = false) (h4 : sh.toList.isEmpty = false) (h5 : (!Op.bytesLess sh.toList rh.toList && !(sh.toList == rh.toList)) = false) (w : World) :
    Calls Try.prog 30 #[.agg #[.string rl, .string rh], .agg #[.string sl, .string sh]] w fun e w' =>
      e = .returned (.tuple #[.agg #[.string rl, .string rh], .bool true]) ∧ Below w.heap.size w w' := by
  go_enter Try.func30, Try.ntmps30
  go_wp2
  exact bodyPost_ret (v := .tuple #[.agg #[.string rl, .string rh], .bool true]) (by simp [results, Try.results30, go_sem]) rfl ⟨rfl, below_allocS (below_allocS (below_allocS (Below.refl _ _) _) _) _⟩
set_option maxHeartbeats 1000000 in
set_option maxRecDepth 100000 in
theorem join_s1 (rl rh sl sh : ByteArray) (h1 : Op.bytesLess sl.toList rl.toList = true) (h2 : sh.toList.isEmpty = true) (w : World) :
    Calls Try.prog 30 #[.agg #[.string rl, .string rh], .agg #[.string sl, .string sh]] w fun e w' =>
      e = .returned (.tuple #[.agg #[.string sl, .string sh], .bool true]) ∧ Below w.heap.size w w' := by
  go_enter Try.func30, Try.ntmps30
  go_wp2
  exact bodyPost_ret (v := .tuple #[.agg #[.string sl, .string sh], .bool true]) (by simp [results, Try.results30, go_sem]) rfl ⟨rfl, below_allocS (below_allocS (below_allocS (Below.refl _ _) _) _) _⟩
set_option maxHeartbeats 1000000 in
set_option maxRecDepth 100000 in
theorem join_s2 (rl rh sl sh : ByteArray) (h1 : Op.bytesLess sl.toList rl.toList = true) (h2 : sh.toList.isEmpty = false) (h3 : Op.bytesLess sh.toList rl.toList = true) (w : World) :
    Calls Try.prog 30 #[.agg #[.string rl, .string rh], .agg #[.string sl, .string sh]] w fun e w' =>
      e = .returned (.tuple #[.agg #[.string ⟨#[]⟩, .string ⟨#[]⟩], .bool false]) ∧ Below w.heap.size w w' := by
  go_enter Try.func30, Try.ntmps30
  go_wp2
  exact bodyPost_ret (v := .tuple #[.agg #[.string ⟨#[]⟩, .string ⟨#[]⟩], .bool false]) (by simp [results, Try.results30, go_sem]) rfl ⟨rfl, below_allocS (below_allocS (below_allocS (Below.refl _ _) _) _) _⟩
set_option maxHeartbeats 1000000 in
set_option maxRecDepth 100000 in
theorem join_s3 (rl rh sl sh : ByteArray) (h1 : Op.bytesLess sl.toList rl.toList = true) (h2 : sh.toList.isEmpty = false) (h3 : Op.bytesLess sh.toList rl.toList = false) (h4 : rh.toList.isEmpty = true) (w : World) :
    Calls Try.prog 30 #[.agg #[.string rl, .string rh], .agg #[.string sl, .string sh]] w fun e w' =>
      e = .returned (.tuple #[.agg #[.string sl, .string rh], .bool true]) ∧ Below w.heap.size w w' := by
  go_enter Try.func30, Try.ntmps30
  go_wp2
  exact bodyPost_ret (v := .tuple #[.agg #[.string sl, .string rh], .bool true]) (by simp [results, Try.results30, go_sem]) rfl ⟨rfl, below_allocS (below_allocS (below_allocS (Below.refl _ _) _) _) _⟩
set_option maxHeartbeats 1000000 in
set_option maxRecDepth 100000 in
theorem join_s4 (rl rh sl sh : ByteArray) (h1 : Op.bytesLess sl.toList rl.toList = true) (h2 : sh.toList.isEmpty = false) (h3 : Op.bytesLess sh.toList rl.toList = false) (h4 : rh.toList.isEmpty = false) (h5 : (!Op.bytesLess rh.toList sh.toList && !(rh.toList == sh.toList)) = true) (w : World) :
    Calls Try.prog 30 #[.agg #[.string rl, .string rh], .agg #[.string sl, .string sh]] w fun e w' =>
      e = .returned (.tuple #[.agg #[.string sl, .string rh], .bool true]) ∧ Below w.heap.size w w' := by
  go_enter Try.func30, Try.ntmps30
  go_wp2
  exact bodyPost_ret (v := .tuple #[.agg #[.string sl, .string rh], .bool true]) (by simp [results, Try.results30, go_sem]) rfl ⟨rfl, below_allocS (below_allocS (below_allocS (Below.refl _ _) _) _) _⟩
set_option maxHeartbeats 1000000 in
set_option maxRecDepth 100000 in
theorem join_s5 (rl rh sl sh : ByteArray) (h1 : Op.bytesLess sl.toList rl.toList = true) (h2 : sh.toList.isEmpty = false) (h3 : Op.bytesLess sh.toList rl.toList = false) (h4 : rh.toList.isEmpty = false) (h5 : (!Op.bytesLess rh.toList sh.toList && !(rh.toList == sh.toList)) = false) (w : World) :
    Calls Try.prog 30 #[.agg #[.string rl, .string rh], .agg #[.string sl, .string sh]] w fun e w' =>
      e = .returned (.tuple #[.agg #[.string sl, .string sh], .bool true]) ∧ Below w.heap.size w w' := by
  go_enter Try.func30, Try.ntmps30
  go_wp2
  exact bodyPost_ret (v := .tuple #[.agg #[.string sl, .string sh], .bool true]) (by simp [results, Try.results30, go_sem]) rfl ⟨rfl, below_allocS (below_allocS (below_allocS (Below.refl _ _) _) _) _⟩
theorem join_any (rl rh sl sh : ByteArray) (w : World) :
    Calls Try.prog 30 #[.agg #[.string rl, .string rh], .agg #[.string sl, .string sh]] w fun e w' =>
      e = .returned (.tuple #[.agg #[.string (jB rl rh sl sh).1, .string (jB rl rh sl sh).2.1], .bool (jB rl rh sl sh).2.2]) ∧ Below w.heap.size w w' := by
  cases h1 : Op.bytesLess sl.toList rl.toList
  · cases h2 : rh.toList.isEmpty
    · cases h3 : Op.bytesLess rh.toList sl.toList
      · cases h4 : sh.toList.isEmpty
        · cases h5 : (!Op.bytesLess sh.toList rh.toList && !(sh.toList == rh.toList))
          · have e : jB rl rh sl sh = (rl, rh, true) := by unfold jB jO; simp [h1, h2, h3, h4, h5]
            rw [e]
            exact join_n5 rl rh sl sh h1 h2 h3 h4 h5 w
          · have e : jB rl rh sl sh = (rl, sh, true) := by unfold jB jO; simp [h1, h2, h3, h4, h5]
            rw [e]
            exact join_n4 rl rh sl sh h1 h2 h3 h4 h5 w
        · have e : jB rl rh sl sh = (rl, sh, true) := by unfold jB jO; simp [h1, h2, h3, h4]
          rw [e]
          exact join_n3 rl rh sl sh h1 h2 h3 h4 w
      · have e : jB rl rh sl sh = (⟨#[]⟩, ⟨#[]⟩, false) := by unfold jB jO; simp [h1, h2, h3]
        rw [e]
        exact join_n2 rl rh sl sh h1 h2 h3 w
    · have e : jB rl rh sl sh = (rl, rh, true) := by unfold jB jO; simp [h1, h2]
      rw [e]
      exact join_n1 rl rh sl sh h1 h2 w
  · cases h2 : sh.toList.isEmpty
    · cases h3 : Op.bytesLess sh.toList rl.toList
      · cases h4 : rh.toList.isEmpty
        · cases h5 : (!Op.bytesLess rh.toList sh.toList && !(rh.toList == sh.toList))
          · have e : jB rl rh sl sh = (sl, sh, true) := by unfold jB jO; simp [h1, h2, h3, h4, h5]
            rw [e]
            exact join_s5 rl rh sl sh h1 h2 h3 h4 h5 w
          · have e : jB rl rh sl sh = (sl, rh, true) := by unfold jB jO; simp [h1, h2, h3, h4, h5]
            rw [e]
            exact join_s4 rl rh sl sh h1 h2 h3 h4 h5 w
        · have e : jB rl rh sl sh = (sl, rh, true) := by unfold jB jO; simp [h1, h2, h3, h4]
          rw [e]
          exact join_s3 rl rh sl sh h1 h2 h3 h4 w
      · have e : jB rl rh sl sh = (⟨#[]⟩, ⟨#[]⟩, false) := by unfold jB jO; simp [h1, h2, h3]
        rw [e]
        exact join_s2 rl rh sl sh h1 h2 h3 w
    · have e : jB rl rh sl sh = (sl, sh, true) := by unfold jB jO; simp [h1, h2]
      rw [e]
      exact join_s1 rl rh sl sh h1 h2 w

set_option maxHeartbeats 1000000 in
set_option maxRecDepth 100000 in
theorem zzjoin_any (rl rh sl sh : ByteArray) (w : World) :
    Calls Try.prog 21 #[.string rl, .string rh, .string sl, .string sh] w fun e w' =>
      e = .returned (.tuple #[.string (jB rl rh sl sh).1, .string (jB rl rh sl sh).2.1, .bool (jB rl rh sl sh).2.2]) ∧ Below w.heap.size w w' := by
  go_enter Try.func21, Try.ntmps21
  go_wp2_with (go_at_call 30; refine (join_any _ _ _ _ _).mono ?_; rintro e w1 ⟨rfl, hb⟩)
  go_quiet (fail)
  go_wp2
  go_ret3
  exact ⟨rfl, below_drewN (below_allocS hb _) _⟩

end Go.Proofs.Qxb6617417a.Jo
