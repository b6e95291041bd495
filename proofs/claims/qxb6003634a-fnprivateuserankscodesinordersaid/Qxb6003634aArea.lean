/-
  SEAT b6003634a: areaKey (19), codeKey (10), inUserArea (22), userRank (18).
-/
import Derived.Test.Qxb6003634aBase
import Derived.Test.Qxb6003634aPlain
namespace Go.Proofs.Qxb6003634a
open Go.RowKit
open Plain

set_option maxHeartbeats 400000 in
theorem ak_any (f : Int) (w : World) (hf : 0 ≤ f ∧ f ≤ 255) : Calls Try.prog 19 #[.int .u8 f] w fun e w' => e = .returned (.int .i64 (ak f)) ∧ w' = w := by
  obtain ⟨h1, h2⟩ := hf
  by_cases h : f ≤ 167
  · have HA : Hid (ak f = f + 256) := by show _ = _; unfold ak; rw [if_pos h]
    go_enter Try.func19, Try.ntmps19
    go_wp2
    go_ret
    exact ⟨ret_int HA.out.symm, rfl⟩
  · have HA : Hid (ak f = f) := by show _ = _; unfold ak; rw [if_neg h]
    go_enter Try.func19, Try.ntmps19
    go_wp2
    go_ret
    exact ⟨ret_int HA.out.symm, rfl⟩

theorem ak_bd (f : Int) (hf : 0 ≤ f ∧ f ≤ 255) : 0 ≤ ak f ∧ ak f ≤ 511 := by unfold ak; split <;> omega

set_option maxHeartbeats 400000 in
theorem ck_any (f s : Int) (w : World) (hf : 0 ≤ f ∧ f ≤ 255) (hs : 0 ≤ s ∧ s ≤ 255) : Calls Try.prog 10 #[.int .u8 f, .int .u8 s] w fun e w' => e = .returned (.int .i64 (ck f s)) ∧ w' = w := by
  have hk := ak_bd f hf
  obtain ⟨k1, k2⟩ := hk
  obtain ⟨s1, s2⟩ := hs
  go_enter Try.func10, Try.ntmps10
  go_wp2_with (go_at_call 19; refine (ak_any f _ hf).mono ?_; rintro e w ⟨rfl, rfl⟩)
  go_ret
  exact ⟨rfl, rfl⟩

set_option maxHeartbeats 1000000 in
theorem area_any (f s : Int) (w : World) (hf : 0 ≤ f ∧ f ≤ 255) (hs : 0 ≤ s ∧ s ≤ 255) : Calls Try.prog 22 #[.int .u8 f, .int .u8 s] w fun e w' => e = .returned (.bool (uB f s)) ∧ w' = w := by
  obtain ⟨f1, f2⟩ := hf
  obtain ⟨s1, s2⟩ := hs
  cases hu : uB f s with
  | true =>
    rw [uB_iff] at hu
    unfold U at hu
    rcases hu with ⟨g1, g2, g3, g4⟩ | ⟨g1, g2, g3, g4⟩ | ⟨g1, g2, g3, g4, g5⟩
    · go_enter Try.func22, Try.ntmps22
      go_wp2
      go_ret
      exact ⟨rfl, rfl⟩
    · go_enter Try.func22, Try.ntmps22
      go_wp2
      go_ret
      exact ⟨rfl, rfl⟩
    · have b : (s != 127) = true := by simp; omega
      clear g5
      go_enter Try.func22, Try.ntmps22
      go_wp2
      go_ret
      exact ⟨rfl, rfl⟩
  | false =>
    rw [uB_no] at hu
    unfold U at hu
    have hw : (f < 161) ∨ (167 < f ∧ f < 170) ∨ (175 < f ∧ f < 248) ∨ (254 < f) ∨ (170 ≤ f ∧ f ≤ 175 ∧ s < 161) ∨ (170 ≤ f ∧ f ≤ 175 ∧ 254 < s) ∨ (248 ≤ f ∧ f ≤ 254 ∧ s < 161) ∨ (248 ≤ f ∧ f ≤ 254 ∧ 254 < s) ∨
        (161 ≤ f ∧ f ≤ 167 ∧ s < 64) ∨ (161 ≤ f ∧ f ≤ 167 ∧ 160 < s) ∨ (161 ≤ f ∧ f ≤ 167 ∧ s = 127) := by omega
    clear hu
    rcases hw with g | ⟨g, g'⟩ | ⟨g, g'⟩ | g | ⟨g, g', g''⟩ | ⟨g, g', g''⟩ | ⟨g, g', g''⟩ | ⟨g, g', g''⟩ | ⟨g, g', g''⟩ | ⟨g, g', g''⟩ | ⟨g, g', g''⟩
    case inr.inr.inr.inr.inr.inr.inr.inr.inr.inr =>
      have b : (s != 127) = false := by simp; omega
      have k1 : 64 ≤ s := by omega
      have k2 : s ≤ 160 := by omega
      clear g''
      go_enter Try.func22, Try.ntmps22
      go_wp2
      go_ret
      exact ⟨rfl, rfl⟩
    all_goals
      go_enter Try.func22, Try.ntmps22
      go_wp2
      go_ret
      exact ⟨rfl, rfl⟩
end Go.Proofs.Qxb6003634a
