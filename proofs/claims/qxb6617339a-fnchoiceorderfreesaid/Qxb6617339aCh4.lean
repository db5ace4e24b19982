import Derived.Test.Qxb6617339aCh3
import Derived.Lib.Builder
namespace Go.Proofs.Qxb6617339a.Ch
open Go.RowKit Go.Deep

theorem info55 : (Try.prog.info? 55).isSome = true := by kernel_rfl
/-- A pointer to a term is itself. -/
theorem neq35 (a : Addr) (w : World) : (binOp .neq 35 (.pointer (some a)) (.pointer (some a))).run Try.prog w = .ok (.bool false) w := by
  obtain ⟨j, hj⟩ := Option.isSome_iff_exists.1 info55
  exact Lib.run_neq_ptr_same w a Try.underlying35 hj

set_option maxHeartbeats 1000000 in
set_option maxRecDepth 100000 in
theorem choiceIs_any (t g off n cap bs offs caps : Nat) (ps : Nat → Nat) (S : Nat → Int) (B : Nat → Bool) (hn : n ≤ 65536) (hS : ∀ i, i < n → 0 ≤ S i ∧ S i ≤ 131073) (w : World)
    (ht : IsChoice w t (csz S n) (anyTo B n) g off n cap) (hp : Ptrs w g off n ps) (hs : Subs w bs offs n S B) :
    Calls Try.prog 13 #[.pointer (some ⟨t, 0, none⟩), .slice (some ⟨g, off, none⟩) n cap, .slice (some ⟨bs, offs, none⟩) n caps] w fun e w' => e = .returned (.bool true) ∧ Below w.heap.size w w' := by
  obtain ⟨_, t0, t3, t6, t8⟩ := ht
  have HP := hide hp.2
  have hg := hp.1
  clear hp
  go_enter Try.func13, Try.ntmps13
  go_wp2_with (first
    | (go_at_call 21; refine (termKind_any _ _ _ t0).mono ?_; rintro e w' ⟨rfl, hw⟩; obtain rfl := hw.symm)
    | (go_at_call 15; refine (termSize_any _ _ _ t6).mono ?_; rintro e w' ⟨rfl, hw⟩; obtain rfl := hw.symm)
    | (go_at_call 16; refine (termBack_any _ _ _ t3).mono ?_; rintro e w' ⟨rfl, hw⟩; obtain rfl := hw.symm)
    | (go_at_call 24; refine (termSubs_any _ _ _ _ _ t8).mono ?_; rintro e w' ⟨rfl, hw⟩; obtain rfl := hw.symm)
    | (go_at_call 22; refine (choiceSize_any bs offs n caps S B hn hS _ hs).mono ?_; rintro e w' ⟨rfl, hw⟩; obtain rfl := hw.symm)
    | (go_at_call 23; refine (anyBack_any bs offs n caps S B hn _ hs).mono ?_; rintro e w' ⟨rfl, hw⟩; obtain rfl := hw.symm))
  go_loopw [8] (fun i wr => ∃ k : Nat, k ≤ n ∧ i = .int .i64 k ∧ Below w.heap.size w wr) (fun i _ => n - (intOf i).toNat)
  case atStart => exact ⟨0, by omega, rfl, Below.refl _ _⟩
  case round =>
    clear t0 t3 t6 t8 hs
    obtain ⟨k, hk, rfl, hB⟩ := hrel
    by_cases hlt : k < n
    · have c0 : wr.cell? ⟨g, off + k, none⟩ = some (.pointer (some ⟨ps k, 0, none⟩)) := by rw [bcell hB _ _ hg]; exact HP.out k hlt
      have hne := neq35
      go_wp2
      go_quiet (fail)
      go_wp2
      go_roundw
      case rel => exact ⟨k + 1, by omega, by go_num, below_drewN hB _⟩
      case measure => simp [intOf]; omega
    · go_wp2
      go_ret
      exact ⟨rfl, hB⟩

end Go.Proofs.Qxb6617339a.Ch
