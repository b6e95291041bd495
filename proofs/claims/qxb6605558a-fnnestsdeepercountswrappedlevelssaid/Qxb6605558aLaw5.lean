import Derived.Test.Qxb6605558aDepth
namespace Go.Proofs.Qxb6605558a
open Go.RowKit
open Plain

set_option maxHeartbeats 400000 in
theorem zb20_yes (a : Option Addr) (len cap : Nat) (i : Int) (w : World) (h : len ≤ 1048576) : Calls Try.prog 20 #[.slice a len cap, .int .i64 i] w fun e w' => e = .returned (.bool true) ∧ w' = w := by
  go_enter Try.func20, Try.ntmps20
  go_wp2
  go_ret
  exact ⟨rfl, rfl⟩
set_option maxHeartbeats 400000 in
theorem zb20_no (a : Option Addr) (len cap : Nat) (i : Int) (w : World) (h : 1048576 < len) : Calls Try.prog 20 #[.slice a len cap, .int .i64 i] w fun e w' => e = .returned (.bool false) ∧ w' = w := by
  go_enter Try.func20, Try.ntmps20
  go_wp2
  go_ret
  exact ⟨rfl, rfl⟩

set_option maxHeartbeats 400000 in
theorem znest_any (a : Option Addr) (len cap : Nat) (zs : List Int) (lim : Int) (w : World) (hl : zs.length = len) (hm : len ≤ 4611686018427387904) (hr : Rd w a zs) :
    Calls Try.prog 22 #[.slice a len cap, .int .i64 lim] w fun e w' => e = .returned (.bool (N lim zs false false 0 0)) ∧ w' = w := by
  have HR : Hid (Rd w a zs) := hr
  clear hr
  go_enter Try.func22, Try.ntmps22
  go_wp2_with (go_at_call 26; refine (nest_any a len cap zs lim _ hl hm HR.out).mono ?_; rintro e w ⟨rfl, rfl⟩)
  go_ret
  exact ⟨rfl, rfl⟩

set_option maxHeartbeats 1000000 in
theorem law5_walk (a0 : Option Addr) (len0 cap0 : Nat) (ys : List Int) (lim : Int) (w : World) (hr : Rd w a0 ys) (hy : ys.length = len0) :
    Calls Try.prog 7 #[.slice a0 len0 cap0, .int .i64 lim] w fun e w' => e = .returned (.bool true) ∧ Below w.heap.size w w' := by
  have HR : Hid (Rd w a0 ys) := hr
  clear hr
  by_cases hle : len0 ≤ 1048576
  · go_enter Try.func7, Try.ntmps7
    go_wp2_with (go_at_call 20; refine (zb20_yes _ _ _ _ _ hle).mono ?_; rintro e w ⟨rfl, rfl⟩)
    refine (clone_any a0 len0 cap0 ys _ hy (by omega) HR.out).mono ?_
    rintro e w1 ⟨b0, d0, rfl, hr0, _, hb1⟩
    have HS : Hid (Rd w1 b0 ys) := hr0
    clear hr0
    go_wp2_with fail
    refine (depth_any b0 len0 d0 ys _ hy (by omega) HS.out).mono ?_
    rintro e w1 ⟨⟨has, best, rfl, htop⟩, rfl⟩
    have HT : Hid (top lim has best = N lim ys false false 0 0) := htop lim
    clear htop
    cases has with
    | false =>
      go_wp2_with (go_at_call 22; refine (znest_any b0 len0 d0 ys lim _ hy (by omega) HS.out).mono ?_; rintro e w1 ⟨rfl, rfl⟩)
      go_ret
      exact ⟨ret_bool (by rw [← HT.out]; simp [top]), hb1⟩
    | true =>
      by_cases hlt : lim < best
      · go_wp2_with (go_at_call 22; refine (znest_any b0 len0 d0 ys lim _ hy (by omega) HS.out).mono ?_; rintro e w1 ⟨rfl, rfl⟩)
        go_ret
        exact ⟨ret_bool (by rw [← HT.out]; simp [top, hlt]), hb1⟩
      · go_wp2_with (go_at_call 22; refine (znest_any b0 len0 d0 ys lim _ hy (by omega) HS.out).mono ?_; rintro e w1 ⟨rfl, rfl⟩)
        go_ret
        exact ⟨ret_bool (by rw [← HT.out]; simp [top]), hb1⟩
  · go_enter Try.func7, Try.ntmps7
    go_wp2_with (go_at_call 20; refine (zb20_no _ _ _ _ _ (by omega)).mono ?_; rintro e w ⟨rfl, rfl⟩)
    go_ret
    exact ⟨rfl, Below.refl _ _⟩
end Go.Proofs.Qxb6605558a
