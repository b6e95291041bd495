import Derived.Test.Qxb6605558aValue
import Derived.Test.Qxb6605558aModel
namespace Go.Proofs.Qxb6605558a
open Go.RowKit
open Plain

set_option maxHeartbeats 400000 in
theorem zb15_yes (a : Option Addr) (len cap : Nat) (i : Int) (w : World) (h : len ≤ 1048576) : Calls Try.prog 15 #[.slice a len cap, .int .i64 i] w fun e w' => e = .returned (.bool true) ∧ w' = w := by
  go_enter Try.func15, Try.ntmps15
  go_wp2
  go_ret
  exact ⟨rfl, rfl⟩
set_option maxHeartbeats 400000 in
theorem zb15_no (a : Option Addr) (len cap : Nat) (i : Int) (w : World) (h : 1048576 < len) : Calls Try.prog 15 #[.slice a len cap, .int .i64 i] w fun e w' => e = .returned (.bool false) ∧ w' = w := by
  go_enter Try.func15, Try.ntmps15
  go_wp2
  go_ret
  exact ⟨rfl, rfl⟩

set_option maxHeartbeats 1000000 in
theorem law3_walk (a0 : Option Addr) (len0 cap0 : Nat) (ys : List Int) (a1 : Int) (w : World) (hr : Rd w a0 ys) (hy : ys.length = len0) :
    Calls Try.prog 5 #[.slice a0 len0 cap0, .int .i64 a1] w fun e w' => e = .returned (.bool true) ∧ Below w.heap.size w w' := by
  have HR : Hid (Rd w a0 ys) := hr
  clear hr
  by_cases hle : len0 ≤ 1048576
  · by_cases hlo : a1 < 0
    · go_enter Try.func5, Try.ntmps5
      go_wp2_with (go_at_call 15; refine (zb15_yes _ _ _ _ _ hle).mono ?_; rintro e w ⟨rfl, rfl⟩)
      go_ret
      exact ⟨rfl, Below.refl _ _⟩
    · by_cases hhi : (len0 : Int) < a1
      · go_enter Try.func5, Try.ntmps5
        go_wp2_with (go_at_call 15; refine (zb15_yes _ _ _ _ _ hle).mono ?_; rintro e w ⟨rfl, rfl⟩)
        go_ret
        exact ⟨rfl, Below.refl _ _⟩
      · obtain ⟨i, rfl⟩ : ∃ i : Nat, a1 = (i : Int) := ⟨a1.toNat, by omega⟩
        have hi : i ≤ len0 := by omega
        go_enter Try.func5, Try.ntmps5
        go_wp2_with (go_at_call 15; refine (zb15_yes _ _ _ _ _ hle).mono ?_; rintro e w ⟨rfl, rfl⟩)
        refine (clone_any a0 len0 cap0 ys _ hy (by omega) HR.out).mono ?_
        rintro e w1 ⟨a', cap', rfl, hr', _, hb⟩
        have HR' : Hid (Rd w1 a' ys) := hr'
        clear hr'
        go_wp2_with (first | (go_at_call 16; refine (zve_any a' len0 cap' ys i _ hy (by omega) hi HR'.out).mono ?_; rintro e w1 ⟨rfl, rfl⟩) | (go_at_call 17; refine (vm_any a' len0 cap' ys i _ hy (by omega) hi HR'.out).mono ?_; rintro e w1 ⟨rfl, rfl⟩))
        go_ret
        exact ⟨by simp, hb⟩
  · go_enter Try.func5, Try.ntmps5
    go_wp2_with (go_at_call 15; refine (zb15_no _ _ _ _ _ (by omega)).mono ?_; rintro e w ⟨rfl, rfl⟩)
    go_ret
    exact ⟨rfl, Below.refl _ _⟩
end Go.Proofs.Qxb6605558a
