/-
  SEAT b6003634a: the law FnPrivateUseRanksCodesInOrder (3): the main road: both texts pass the law's own tests.
-/
import Derived.Test.Qxb6003634aLaw8
namespace Go.Proofs.Qxb6003634a
open Go.RowKit
open Plain

theorem tc_kind (a : Option Addr) (n cap : Nat) (ys : List Int) (w : World) (hn : ys.length = n) (h2 : n = 2) (hr : Rd w a ys) :
    Calls Try.prog 6 #[.slice a n cap] w fun e w' => e = .returned (.bool (leadB (ys.getD 0 0) && trailB (ys.getD 1 0))) ∧ w' = w := by
  obtain ⟨b, o, rfl, ht⟩ := hr.two (by omega)
  subst h2
  rw [hn] at ht
  exact tc_two b o cap _ _ w ht
theorem Kind.code {ys : List Int} {n : Nat} {r : Int} {ok : Bool} (h : Kind ys n r ok) (h2 : n = 2) : (leadB (ys.getD 0 0) && trailB (ys.getD 1 0)) = true := by
  rcases h with ⟨h, _⟩ | ⟨_, h3, h4, _⟩
  · omega
  · rw [Bool.and_eq_true, leadB_iff, trailB_iff]; exact ⟨h3, h4⟩

theorem eq_of_ord {a b k l : Int} (h : (a < b ∧ k < l) ∨ (b < a ∧ l < k) ∨ (a = b ∧ k = l)) : (a == b) = (k == l) := by
  rw [Bool.eq_iff_iff]
  simp
  omega

set_option maxHeartbeats 4000000 in
theorem law8_main (a0 : Option Addr) (len0 cap0 : Nat) (ys0 : List Int) (a1 : Option Addr) (len1 cap1 : Nat) (ys1 : List Int) (w : World) (hle : len0 + len1 ≤ 1048576) (hc0 : ¬ 65536 < len0) (hc1 : ¬ 65536 < len1)
    (hr0 : Rd w a0 ys0) (hy0 : ys0.length = len0) (hB0 : Bytes ys0) (hr1 : Rd w a1 ys1) (hy1 : ys1.length = len1) (hB1 : Bytes ys1)
    (r0 : Int) (ok0 : Bool) (hk0 : Kind ys0 len0 r0 ok0) (r1 : Int) (ok1 : Bool) (hk1 : Kind ys1 len1 r1 ok1) :
    Calls Try.prog 3 #[.slice a0 len0 cap0, .slice a1 len1 cap1] w fun e w' => e = .returned (.bool true) ∧ Below w.heap.size w w' := by
  have HR0 : Hid (Rd w a0 ys0) := hr0
  have HR1 : Hid (Rd w a1 ys1) := hr1
  have HK0 : Hid (Kind ys0 len0 r0 ok0) := hk0
  have HK1 : Hid (Kind ys1 len1 r1 ok1) := hk1
  have HB0 : Hid (Bytes ys0) := hB0
  have HB1 : Hid (Bytes ys1) := hB1
  have HY0 : Hid (ys0.length = len0) := hy0
  have HY1 : Hid (ys1.length = len1) := hy1
  have hd0 : decide ((65536 : Int) < (len0 : Int)) = false := by simp; omega
  have hd1 : decide ((65536 : Int) < (len1 : Int)) = false := by simp; omega
  clear hr0 hr1 hk0 hk1 hB0 hB1 hy0 hy1
  cases hb0 : ((len0 : Int) == 2) <;> cases hb1 : ((len1 : Int) == 2)
  all_goals
    go_enter Try.func3, Try.ntmps3
    go_wp2_with (go_at_call 5; refine (zb5_yes _ _ _ _ _ _ _ hle).mono ?_; rintro e w ⟨rfl, rfl⟩)
  all_goals try (with_reducible show Calls Try.prog 6 #[.slice a0 len0 cap0] _ _; refine (tc_kind a0 len0 cap0 ys0 _ HY0.out (by simp at hb0; omega) HR0.out).mono ?_; rintro e w ⟨rfl, rfl⟩; rw [HK0.out.code (by simp at hb0; omega)]; go_wp2_with fail)
  all_goals try (with_reducible show Calls Try.prog 6 #[.slice a1 len1 cap1] _ _; refine (tc_kind a1 len1 cap1 ys1 _ HY1.out (by simp at hb1; omega) HR1.out).mono ?_; rintro e w ⟨rfl, rfl⟩; rw [HK1.out.code (by simp at hb1; omega)]; go_wp2_with fail)
  all_goals
    refine (clone_any a0 len0 cap0 ys0 _ HY0.out (by omega) HR0.out).mono ?_
    rintro e w1 ⟨b0, rfl, hs0, _, hx1⟩
    have HS0 : Hid (Rd w1 b0 ys0) := hs0
    have HS1 : Hid (Rd w1 a1 ys1) := HR1.out.later hx1
    clear hs0
    go_wp2_with fail
    refine (clone_any a1 len1 cap1 ys1 _ HY1.out (by omega) HS1.out).mono ?_
    rintro e w2 ⟨b1, rfl, hs1, _, hx2⟩
    have HU0 : Hid (Rd w2 b0 ys0) := HS0.out.later hx2
    have HU1 : Hid (Rd w2 b1 ys1) := hs1
    have hB2 : Below w.heap.size w w2 := hx1.trans (hx2.mono hx1.size)
    clear hs1 hx2 hx1 HS0 HS1
    go_wp2_with fail
    refine (zpu_kind b0 len0 len0 ys0 r0 ok0 _ HY0.out HK0.out HU0.out).mono ?_
    rintro e w3 ⟨rfl, hb3⟩
    go_wp2_with fail
    refine (zpu_kind b1 len1 len1 ys1 r1 ok1 _ HY1.out HK1.out (HU1.out.later hb3)).mono ?_
    rintro e w4 ⟨rfl, hb4⟩
    have hB4 : Below w2.heap.size w2 w4 := hb3.trans (hb4.mono hb3.size)
    clear hb3 hb4
    go_wp2_with fail
    refine (pr_kind b0 len0 len0 ys0 r0 ok0 _ HY0.out HB0.out HK0.out (HU0.out.later hB4)).mono ?_
    rintro e w5 ⟨rfl, hb5⟩
    have hB5 : Below w2.heap.size w2 w5 := hB4.trans (hb5.mono hB4.size)
    clear hb5
    go_wp2_with fail
    refine (pr_kind b1 len1 len1 ys1 r1 ok1 _ HY1.out HB1.out HK1.out (HU1.out.later hB5)).mono ?_
    rintro e w6 ⟨rfl, hb6⟩
    have hB6 : Below w2.heap.size w2 w6 := hB5.trans (hb6.mono hB5.size)
    have hend : Below w.heap.size w w6 := hB2.trans (hB6.mono hB2.size)
    clear hb6
    cases ok0 with
    | false =>
      go_wp2
      go_ret
      exact ⟨rfl, hend⟩
    | true =>
      cases ok1 with
      | false =>
        go_wp2
        go_ret
        exact ⟨rfl, hend⟩
      | true =>
        obtain ⟨n0, hu0, hr0⟩ := HK0.out.yes
        obtain ⟨n1, hu1, hr1⟩ := HK1.out.yes
        have hord := ord_of hu0 hu1 hr0 hr1
        obtain ⟨c0, p0, f0, ht0⟩ := (HU0.out.later hB6).two (by have := HY0.out; omega)
        obtain ⟨c1, p1, f1, ht1⟩ := (HU1.out.later hB6).two (by have := HY1.out; omega)
        rw [HY0.out, n0] at ht0
        rw [HY1.out, n1] at ht1
        obtain ⟨x0, hx0⟩ : ∃ x, ys0.getD 0 0 = x := ⟨_, rfl⟩
        obtain ⟨y0, hy0⟩ : ∃ y, ys0.getD 1 0 = y := ⟨_, rfl⟩
        obtain ⟨x1, hx1⟩ : ∃ x, ys1.getD 0 0 = x := ⟨_, rfl⟩
        obtain ⟨y1, hy1⟩ : ∃ y, ys1.getD 1 0 = y := ⟨_, rfl⟩
        have bx0 := HB0.out 0
        have by0 := HB0.out 1
        have bx1 := HB1.out 0
        have by1 := HB1.out 1
        rw [hx0, hy0] at ht0 hord
        rw [hx1, hy1] at ht1 hord
        rw [hx0] at bx0
        rw [hy0] at by0
        rw [hx1] at bx1
        rw [hy1] at by1
        clear hu0 hu1 hr0 hr1 hx0 hy0 hx1 hy1
        subst f0 f1
        obtain ⟨q00, q01⟩ := ht0
        obtain ⟨q10, q11⟩ := ht1
        have q01' := q01 (Nat.le_refl _)
        have q11' := q11 (Nat.le_refl _)
        clear q01 q11
        have m0 : (0 : Int) < (len0 : Int) := by omega
        have m0' : (1 : Int) < (len0 : Int) := by omega
        have m1 : (0 : Int) < (len1 : Int) := by omega
        have m1' : (1 : Int) < (len1 : Int) := by omega
        have s0 : ((len0 : Int) == 2) = true := by simp; omega
        have s1 : ((len1 : Int) == 2) = true := by simp; omega
        rw [hb0] at s0
        rw [hb1] at s1
        first | exact absurd s0 Bool.false_ne_true | exact absurd s1 Bool.false_ne_true | skip
        all_goals (clear n0 n1 s0 s1)
        all_goals rcases hord with ⟨z1, z2⟩ | ⟨z1, z2⟩ | ⟨z1, z2⟩
        all_goals
          go_wp2
          go_quiet ((go_at_call 10; exact Calls.quiet_of_same (ck_any x0 y0 _ bx0 by0)))
          go_wp2
          have k10 : (w6.drewN nq).cell? ⟨c1, p1, none⟩ = some (.int .u8 x1) := q10
          have k11 : (w6.drewN nq).cell? ⟨c1, p1 + 1, none⟩ = some (.int .u8 y1) := q11'
          have kend : Below w.heap.size w (w6.drewN nq) := below_drewN hend _
          clear q00 q01' q10 q11'
          generalize w6.drewN nq = w7 at k10 k11 kend ⊢
          go_quiet ((go_at_call 10; exact Calls.quiet_of_same (ck_any x1 y1 _ bx1 by1)))
          go_wp2
          go_ret
          exact ⟨by first | (simp; done) | (simp; exact eq_of_ord (by omega)), below_drewN kend _⟩
end Go.Proofs.Qxb6003634a
