/-
  SEAT b6003634a: the law FnPrivateUseRanksCodesInOrder (3): every road.
-/
import Derived.Test.Qxb6003634aFinal
namespace Go.Proofs.Qxb6003634a
open Go.RowKit
open Plain

/-- a text passes the law's own test, and has its kind; or it is of two bytes and no two-byte code -/
theorem kind_or (ys : List Int) (n : Nat) : (∃ r ok, Kind ys n r ok) ∨ (n = 2 ∧ (leadB (ys.getD 0 0) && trailB (ys.getD 1 0)) = false) := by
  by_cases h2 : n = 2
  · cases h : (leadB (ys.getD 0 0) && trailB (ys.getD 1 0)) with
    | true =>
      rw [Bool.and_eq_true, leadB_iff, trailB_iff] at h
      exact .inl ⟨_, _, .inr ⟨h2, h.1, h.2, rfl, rfl⟩⟩
    | false => exact .inr ⟨h2, rfl⟩
  · exact .inl ⟨0, false, .inl ⟨by omega, rfl, rfl⟩⟩

set_option maxHeartbeats 1000000 in
theorem law8_walk (a0 : Option Addr) (len0 cap0 : Nat) (ys0 : List Int) (a1 : Option Addr) (len1 cap1 : Nat) (ys1 : List Int) (w : World) (hr0 : Rd w a0 ys0) (hy0 : ys0.length = len0) (hB0 : Bytes ys0) (hr1 : Rd w a1 ys1) (hy1 : ys1.length = len1) (hB1 : Bytes ys1) :
    Calls Try.prog 3 #[.slice a0 len0 cap0, .slice a1 len1 cap1] w fun e w' => e = .returned (.bool true) ∧ Below w.heap.size w w' := by
  by_cases hle : len0 + len1 ≤ 1048576
  · by_cases hc0 : 65536 < len0
    · clear hr0 hr1 hB0 hB1
      go_enter Try.func3, Try.ntmps3
      go_wp2_with (go_at_call 5; refine (zb5_yes _ _ _ _ _ _ _ hle).mono ?_; rintro e w ⟨rfl, rfl⟩)
      go_ret
      exact ⟨rfl, Below.refl _ _⟩
    · by_cases hc1 : 65536 < len1
      · clear hr0 hr1 hB0 hB1
        go_enter Try.func3, Try.ntmps3
        go_wp2_with (go_at_call 5; refine (zb5_yes _ _ _ _ _ _ _ hle).mono ?_; rintro e w ⟨rfl, rfl⟩)
        go_ret
        exact ⟨rfl, Below.refl _ _⟩
      · rcases kind_or ys0 len0 with ⟨r0, ok0, hk0⟩ | ⟨e0, g0⟩
        · rcases kind_or ys1 len1 with ⟨r1, ok1, hk1⟩ | ⟨e1, g1⟩
          · exact law8_main a0 len0 cap0 ys0 a1 len1 cap1 ys1 w hle hc0 hc1 hr0 hy0 hB0 hr1 hy1 hB1 r0 ok0 hk0 r1 ok1 hk1
          · have HR0 : Hid (Rd w a0 ys0) := hr0
            have HR1 : Hid (Rd w a1 ys1) := hr1
            have HK0 : Hid (Kind ys0 len0 r0 ok0) := hk0
            have HG1 : Hid ((leadB (ys1.getD 0 0) && trailB (ys1.getD 1 0)) = false) := g1
            have HE1 : Hid (len1 = 2) := e1
            have HY0 : Hid (ys0.length = len0) := hy0
            have HY1 : Hid (ys1.length = len1) := hy1
            have hb1 : ((len1 : Int) == 2) = true := by simp; omega
            clear hr0 hr1 hk0 g1 e1 hy0 hy1 hB0 hB1
            cases hb0 : ((len0 : Int) == 2)
            all_goals
              go_enter Try.func3, Try.ntmps3
              go_wp2_with (go_at_call 5; refine (zb5_yes _ _ _ _ _ _ _ hle).mono ?_; rintro e w ⟨rfl, rfl⟩)
            all_goals try (with_reducible show Calls Try.prog 6 #[.slice a0 len0 cap0] _ _; refine (tc_kind a0 len0 cap0 ys0 _ HY0.out (by simp at hb0; omega) HR0.out).mono ?_; rintro e w ⟨rfl, rfl⟩; rw [HK0.out.code (by simp at hb0; omega)]; go_wp2_with fail)
            all_goals
              refine (tc_kind a1 len1 cap1 ys1 _ HY1.out HE1.out HR1.out).mono ?_
              rintro e w ⟨rfl, rfl⟩
              rw [HG1.out]
              go_wp2
              go_ret
              exact ⟨rfl, Below.refl _ _⟩
        · have HR0 : Hid (Rd w a0 ys0) := hr0
          have HG0 : Hid ((leadB (ys0.getD 0 0) && trailB (ys0.getD 1 0)) = false) := g0
          have HE0 : Hid (len0 = 2) := e0
          have HY0 : Hid (ys0.length = len0) := hy0
          have hb0 : ((len0 : Int) == 2) = true := by simp; omega
          clear hr0 hr1 g0 e0 hy0 hy1 hB0 hB1
          go_enter Try.func3, Try.ntmps3
          go_wp2_with (go_at_call 5; refine (zb5_yes _ _ _ _ _ _ _ hle).mono ?_; rintro e w ⟨rfl, rfl⟩)
          refine (tc_kind a0 len0 cap0 ys0 _ HY0.out HE0.out HR0.out).mono ?_
          rintro e w ⟨rfl, rfl⟩
          rw [HG0.out]
          go_wp2
          go_ret
          exact ⟨rfl, Below.refl _ _⟩
  · clear hr0 hr1 hB0 hB1
    go_enter Try.func3, Try.ntmps3
    go_wp2_with (go_at_call 5; refine (zb5_no _ _ _ _ _ _ _ (by omega)).mono ?_; rintro e w ⟨rfl, rfl⟩)
    go_ret
    exact ⟨rfl, Below.refl _ _⟩
end Go.Proofs.Qxb6003634a
