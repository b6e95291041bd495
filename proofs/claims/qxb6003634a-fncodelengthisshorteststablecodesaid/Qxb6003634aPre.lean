/-
  SEAT b6003634a: prefixCodeLength (13): the same function of the first two bytes as codeLength.
-/
import Derived.Test.Qxb6003634aLen
namespace Go.Proofs.Qxb6003634a
open Go.RowKit
open Plain

set_option maxHeartbeats 1000000 in
theorem pre_any (b o n cap : Nat) (x y : Int) (w : World) (hn : 1 ≤ n) (hcap : n ≤ cap) (hm : cap ≤ 4611686018427387904) (hx : 0 ≤ x ∧ x ≤ 255) (hy : 0 ≤ y ∧ y ≤ 255) (ht : Two w b o n x y) :
    Calls Try.prog 13 #[.slice (some ⟨b, o, none⟩) n cap] w fun e w' => e = .returned (.int .i64 (cl n x y : Nat)) ∧ w' = w := by
  have HT : Hid (Two w b o n x y) := ht
  clear ht
  by_cases h1 : x < 128
  · have HA : Hid (cl n x y = 1) := cl_1 n x y h1
    go_enter Try.func13, Try.ntmps13
    go_wp2_with fail
    refine (whole1 b o cap x y _ (HT.out.cut 1 (by omega))).mono ?_
    rintro e w ⟨rfl, rfl⟩
    go_wp2
    go_ret
    exact ⟨ret_int (by rw [HA.out]; rfl), rfl⟩
  · by_cases h2 : n < 2
    · have HA : Hid (cl n x y = 0) := cl_0 n x y h1 (by omega)
      go_enter Try.func13, Try.ntmps13
      go_wp2_with fail
      refine (whole1 b o cap x y _ (HT.out.cut 1 (by omega))).mono ?_
      rintro e w ⟨rfl, rfl⟩
      go_wp2
      go_ret
      exact ⟨ret_int (by rw [HA.out]; rfl), rfl⟩
    · cases hw2 : (leadB x && trailB y) with
      | true =>
        have HA : Hid (cl n x y = 2) := by
          rw [Bool.and_eq_true, leadB_iff, trailB_iff] at hw2
          exact cl_2 n x y h1 (by omega) hw2.2
        go_enter Try.func13, Try.ntmps13
        go_wp2_with fail
        refine (whole1 b o cap x y _ (HT.out.cut 1 (by omega))).mono ?_
        rintro e w ⟨rfl, rfl⟩
        go_wp2_with fail
        refine (whole2 b o cap x y _ (HT.out.cut 2 (by omega))).mono ?_
        rintro e w ⟨rfl, rfl⟩
        rw [hw2]
        clear hw2
        go_wp2
        go_ret
        exact ⟨ret_int (by rw [HA.out]; rfl), rfl⟩
      | false =>
        by_cases h4 : n < 4
        · have HA : Hid (cl n x y = 0) := by
            rw [← Bool.not_eq_true, Bool.and_eq_true, leadB_iff, trailB_iff] at hw2
            by_cases h0 : x = 128 ∨ x = 255
            · exact cl_0 n x y h1 (by omega)
            · exact cl_n n x y h1 (by omega) (by omega) (by omega)
          go_enter Try.func13, Try.ntmps13
          go_wp2_with fail
          refine (whole1 b o cap x y _ (HT.out.cut 1 (by omega))).mono ?_
          rintro e w ⟨rfl, rfl⟩
          go_wp2_with fail
          refine (whole2 b o cap x y _ (HT.out.cut 2 (by omega))).mono ?_
          rintro e w ⟨rfl, rfl⟩
          rw [hw2]
          clear hw2
          go_wp2
          go_ret
          exact ⟨ret_int (by rw [HA.out]; rfl), rfl⟩
        · cases hw4 : (leadB x && digB y) with
          | true =>
            have HA : Hid (cl n x y = 4) := by
              rw [← Bool.not_eq_true, Bool.and_eq_true, leadB_iff, trailB_iff] at hw2
              rw [Bool.and_eq_true, leadB_iff, digB_iff] at hw4
              exact cl_4 n x y h1 (by omega) (by omega) (by omega)
            go_enter Try.func13, Try.ntmps13
            go_wp2_with fail
            refine (whole1 b o cap x y _ (HT.out.cut 1 (by omega))).mono ?_
            rintro e w ⟨rfl, rfl⟩
            go_wp2_with fail
            refine (whole2 b o cap x y _ (HT.out.cut 2 (by omega))).mono ?_
            rintro e w ⟨rfl, rfl⟩
            rw [hw2]
            clear hw2
            go_wp2_with fail
            refine (whole4 b o cap x y _ (HT.out.cut 4 (by omega))).mono ?_
            rintro e w ⟨rfl, rfl⟩
            rw [hw4]
            clear hw4
            go_wp2
            go_ret
            exact ⟨ret_int (by rw [HA.out]; rfl), rfl⟩
          | false =>
            have HA : Hid (cl n x y = 0) := by
              rw [← Bool.not_eq_true, Bool.and_eq_true, leadB_iff, trailB_iff] at hw2
              rw [← Bool.not_eq_true, Bool.and_eq_true, leadB_iff, digB_iff] at hw4
              by_cases h0 : x = 128 ∨ x = 255
              · exact cl_0 n x y h1 (by omega)
              · exact cl_n n x y h1 (by omega) (by omega) (by omega)
            go_enter Try.func13, Try.ntmps13
            go_wp2_with fail
            refine (whole1 b o cap x y _ (HT.out.cut 1 (by omega))).mono ?_
            rintro e w ⟨rfl, rfl⟩
            go_wp2_with fail
            refine (whole2 b o cap x y _ (HT.out.cut 2 (by omega))).mono ?_
            rintro e w ⟨rfl, rfl⟩
            rw [hw2]
            clear hw2
            go_wp2_with fail
            refine (whole4 b o cap x y _ (HT.out.cut 4 (by omega))).mono ?_
            rintro e w ⟨rfl, rfl⟩
            rw [hw4]
            clear hw4
            go_wp2
            go_ret
            exact ⟨ret_int (by rw [HA.out]; rfl), rfl⟩

set_option maxHeartbeats 400000 in
theorem zb11_yes (a b : Option Addr) (la ca lb cb : Nat) (w : World) (h : la + lb ≤ 1048576) : Calls Try.prog 11 #[.slice a la ca, .slice b lb cb] w fun e w' => e = .returned (.bool true) ∧ w' = w := by
  go_enter Try.func11, Try.ntmps11
  go_wp2
  go_ret
  exact ⟨rfl, rfl⟩
set_option maxHeartbeats 400000 in
theorem zb11_no (a b : Option Addr) (la ca lb cb : Nat) (w : World) (h : 1048576 < la + lb) : Calls Try.prog 11 #[.slice a la ca, .slice b lb cb] w fun e w' => e = .returned (.bool false) ∧ w' = w := by
  go_enter Try.func11, Try.ntmps11
  go_wp2
  all_goals
    go_ret
    exact ⟨rfl, rfl⟩
end Go.Proofs.Qxb6003634a
