import Derived.Test.Qxb6605558aWrap
import Derived.Test.Qxb6605558aLaw5
namespace Go.Proofs.Qxb6605558a
open Go.RowKit
open Plain

set_option maxHeartbeats 400000 in
theorem zb23_yes (i j : Int) (a : Option Addr) (len cap : Nat) (w : World) (h : len ≤ 1048576) : Calls Try.prog 23 #[.int .i64 i, .int .i64 j, .slice a len cap] w fun e w' => e = .returned (.bool true) ∧ w' = w := by
  go_enter Try.func23, Try.ntmps23
  go_wp2
  go_ret
  exact ⟨rfl, rfl⟩
set_option maxHeartbeats 400000 in
theorem zb23_no (i j : Int) (a : Option Addr) (len cap : Nat) (w : World) (h : 1048576 < len) : Calls Try.prog 23 #[.int .i64 i, .int .i64 j, .slice a len cap] w fun e w' => e = .returned (.bool false) ∧ w' = w := by
  go_enter Try.func23, Try.ntmps23
  go_wp2
  go_ret
  exact ⟨rfl, rfl⟩

set_option maxHeartbeats 1000000 in
theorem law6_walk (dep lim : Int) (a0 : Option Addr) (len0 cap0 : Nat) (ys : List Int) (w : World) (hr : Rd w a0 ys) (hy : ys.length = len0) :
    Calls Try.prog 8 #[.int .i64 dep, .int .i64 lim, .slice a0 len0 cap0] w fun e w' => e = .returned (.bool true) ∧ Below w.heap.size w w' := by
  have HR : Hid (Rd w a0 ys) := hr
  clear hr
  by_cases hle : len0 ≤ 1048576
  · by_cases hc0 : 65536 < len0
    · go_enter Try.func8, Try.ntmps8
      go_wp2_with (go_at_call 23; refine (zb23_yes _ _ _ _ _ _ hle).mono ?_; rintro e w ⟨rfl, rfl⟩)
      go_ret
      exact ⟨rfl, Below.refl _ _⟩
    · by_cases hlo : dep < 0
      · go_enter Try.func8, Try.ntmps8
        go_wp2_with (go_at_call 23; refine (zb23_yes _ _ _ _ _ _ hle).mono ?_; rintro e w ⟨rfl, rfl⟩)
        go_ret
        exact ⟨rfl, Below.refl _ _⟩
      · by_cases hhi : 65536 < dep
        · go_enter Try.func8, Try.ntmps8
          go_wp2_with (go_at_call 23; refine (zb23_yes _ _ _ _ _ _ hle).mono ?_; rintro e w ⟨rfl, rfl⟩)
          go_ret
          exact ⟨rfl, Below.refl _ _⟩
        · obtain ⟨n, rfl⟩ : ∃ n : Nat, dep = (n : Int) := ⟨dep.toNat, by omega⟩
          have hn : n ≤ 65536 := by omega
          go_enter Try.func8, Try.ntmps8
          go_wp2_with (go_at_call 23; refine (zb23_yes _ _ _ _ _ _ hle).mono ?_; rintro e w ⟨rfl, rfl⟩)
          refine (clone_any a0 len0 cap0 ys _ hy (by omega) HR.out).mono ?_
          rintro e w1 ⟨b0, d0, rfl, hr0, _, hb1⟩
          have HS : Hid (Rd w1 b0 ys) := hr0
          clear hr0
          go_wp2_with fail
          refine (wrap_any n b0 len0 d0 ys _ hn hy (by omega) HS.out).mono ?_
          rintro e w2 ⟨g, m, d2, q, rfl, hm, _, hr2, hb2⟩
          have HM : Hid ((wrapL n ys).length = m) := hm.symm
          have HW : Hid (Rd w2 (some ⟨g, 0, none⟩) (wrapL n ys)) := hr2
          have HA : Hid (N lim (wrapL n ys) false false 0 0 = (decide (1 ≤ n) && decide (lim < (n : Int)))) := law6 lim n ys
          have hmb : m ≤ 4611686018427387904 := by
            have h1 := wrap_len n ys
            have h2 := quote_len ys
            have h3 := esc_le ys
            omega
          have hend : Below w.heap.size w w2 := hb1.trans (hb2.mono hb1.size)
          clear hm hr2 HS HR hb1 hb2
          by_cases h1 : 1 ≤ n
          · by_cases h2 : lim < (n : Int)
            · go_wp2_with (go_at_call 22; refine (znest_any _ m d2 (wrapL n ys) lim _ HM.out hmb HW.out).mono ?_; rintro e w2 ⟨rfl, rfl⟩)
              go_ret
              exact ⟨ret_bool (by rw [HA.out]; simp [h1, h2]), hend⟩
            · go_wp2_with (go_at_call 22; refine (znest_any _ m d2 (wrapL n ys) lim _ HM.out hmb HW.out).mono ?_; rintro e w2 ⟨rfl, rfl⟩)
              go_ret
              exact ⟨ret_bool (by rw [HA.out]; simp; omega), hend⟩
          · go_wp2_with (go_at_call 22; refine (znest_any _ m d2 (wrapL n ys) lim _ HM.out hmb HW.out).mono ?_; rintro e w2 ⟨rfl, rfl⟩)
            go_ret
            exact ⟨ret_bool (by rw [HA.out]; simp [h1]), hend⟩
  · go_enter Try.func8, Try.ntmps8
    go_wp2_with (go_at_call 23; refine (zb23_no _ _ _ _ _ _ (by omega)).mono ?_; rintro e w ⟨rfl, rfl⟩)
    go_ret
    exact ⟨rfl, Below.refl _ _⟩
end Go.Proofs.Qxb6605558a
