/-
  SEAT b6003634a: userRank (18): two loops, one inside the other; it only computes.
-/
import Derived.Test.Qxb6003634aArea
namespace Go.Proofs.Qxb6003634a
open Go.RowKit
open Plain

theorem T_step (k : Int) (n : Nat) : T k (n + 1) = T k n + R k n 256 := rfl

set_option maxHeartbeats 1000000 in
set_option maxRecDepth 100000 in
theorem rank_any (f s : Int) (w : World) (hf : 0 ≤ f ∧ f ≤ 255) (hs : 0 ≤ s ∧ s ≤ 255) (r : Int) (HT : Hid (∀ n : Nat, n = 256 → T (ck f s) n = r)) : Calls Try.prog 18 #[.int .u8 f, .int .u8 s] w fun e w' => e = .returned (.int .i64 r) ∧ w' = w := by
  go_enter Try.func18, Try.ntmps18
  go_wp2_with (go_at_call 10; refine (ck_any f s _ hf hs).mono ?_; rintro e w ⟨rfl, rfl⟩)
  obtain ⟨K, hK⟩ : ∃ K, ck f s = K := ⟨_, rfl⟩
  have HT' : Hid (∀ n : Nat, n = 256 → T K n = r) := by
    intro n hn
    rw [← hK]; exact HT.out n hn
  rw [hK]
  clear hK HT
  go_loop [6, 7] (fun t i => ∃ (n : Nat) (c : Int), n ≤ 256 ∧ 0 ≤ c ∧ c ≤ 256 * n ∧ i = .int .i64 n ∧ t = .int .i64 c ∧ Hid (c = T K n)) (fun _ i => 256 - (intOf i).toNat)
  case atStart => exact ⟨0, 0, by omega, by omega, by omega, rfl, rfl, rfl⟩
  case round =>
    obtain ⟨n, c, hn, hc1, hc2, rfl, rfl, HE⟩ := hrel
    by_cases hlt : n < 256
    · have hnb : 0 ≤ (n : Int) ∧ (n : Int) ≤ 255 := by omega
      go_wp2
      go_loop [6, 8] (fun t j => ∃ (m : Nat) (d : Int), m ≤ 256 ∧ 0 ≤ d ∧ d ≤ 256 * n + m ∧ j = .int .i64 m ∧ t = .int .i64 d ∧ Hid (d = T K n + R K n m)) (fun _ j => 256 - (intOf j).toNat)
      case atStart => exact ⟨0, c, by omega, by omega, by omega, rfl, rfl, by show _ = _; rw [← HE.out, R]; omega⟩
      case round =>
        obtain ⟨m, d, hm, hd1, hd2, rfl, rfl, HD⟩ := hrel
        by_cases hmt : m < 256
        · have hmb : 0 ≤ (m : Int) ∧ (m : Int) ≤ 255 := by omega
          cases hub : uB n m with
          | false =>
            have H1 : Hid (d = T K n + R K n (m + 1)) := by show _ = _; rw [R_no K n m (.inl hub)]; exact HD.out
            go_wp2_with (go_at_call 22; refine (area_any _ _ _ hnb hmb).mono ?_; rintro e w ⟨rfl, rfl⟩)
            go_round
            case rel => exact ⟨m + 1, d, by omega, by omega, by omega, by go_num, rfl, H1⟩
            case measure => simp [intOf]; omega
          | true =>
            by_cases hck : ck n m < K
            · have H1 : Hid (d + 1 = T K n + R K n (m + 1)) := by show _ = _; rw [R_yes K n m hub hck, HD.out]; omega
              go_wp2_with (first | (go_at_call 22; refine (area_any _ _ _ hnb hmb).mono ?_; rintro e w ⟨rfl, rfl⟩) | (go_at_call 10; refine (ck_any _ _ _ hnb hmb).mono ?_; rintro e w ⟨rfl, rfl⟩))
              go_round
              case rel => exact ⟨m + 1, d + 1, by omega, by omega, by omega, by go_num, rfl, H1⟩
              case measure => simp [intOf]; omega
            · have H1 : Hid (d = T K n + R K n (m + 1)) := by show _ = _; rw [R_no K n m (.inr hck)]; exact HD.out
              go_wp2_with (first | (go_at_call 22; refine (area_any _ _ _ hnb hmb).mono ?_; rintro e w ⟨rfl, rfl⟩) | (go_at_call 10; refine (ck_any _ _ _ hnb hmb).mono ?_; rintro e w ⟨rfl, rfl⟩))
              go_round
              case rel => exact ⟨m + 1, d, by omega, by omega, by omega, by go_num, rfl, H1⟩
              case measure => simp [intOf]; omega
        · have H1 : Hid (d = T K (n + 1)) := by
            show _ = _
            rw [T_step, HD.out]
            congr 1
            rw [show m = 256 from by omega]
          go_wp2
          go_round
          case rel => exact ⟨n + 1, d, by omega, by omega, by omega, by go_num, rfl, H1⟩
          case measure => simp [intOf]; omega
    · have H1 : Hid (c = r) := HE.out.trans (HT'.out n (by omega))
      go_wp2
      go_ret
      exact ⟨ret_int H1.out, rfl⟩
end Go.Proofs.Qxb6003634a
