import Derived.Test.Qxb6605558aBase
namespace Go.Proofs.Qxb6605558a
open Go.RowKit
open Plain

theorem ret_bool {a b : Bool} (h : a = b) : Ending.returned (.bool a) = .returned (.bool b) := by rw [h]

theorem N_open (lim : Int) (zs : List Int) (d : Int) (k : Nat) (c : Int) (hk : k < zs.length) (hc : zs.getD k 0 = c) (h : c = 91 ∨ c = 123) : N lim zs false false d k = (decide (lim < d + 1) || N lim zs false false (d + 1) (k + 1)) := by
  by_cases hl : lim < d + 1
  · rw [N_hit lim zs d k c hk hc h hl]; simp [hl]
  · rw [N_up lim zs d k c hk hc h hl]; simp [hl]

set_option maxHeartbeats 1000000 in
theorem nest_any (a : Option Addr) (len cap : Nat) (zs : List Int) (lim : Int) (w : World) (hl : zs.length = len) (hm : len ≤ 4611686018427387904) (hr : Rd w a zs) :
    Calls Try.prog 26 #[.slice a len cap, .int .i64 lim] w fun e w' => e = .returned (.bool (N lim zs false false 0 0)) ∧ w' = w := by
  have HR : Hid (Rd w a zs) := hr
  clear hr
  go_enter Try.func26, Try.ntmps26
  go_wp2
  go_loop [5, 6, 7, 12] (fun dd s e j => ∃ (k : Nat) (d : Int) (p q : Bool), k ≤ len ∧ -(k : Int) ≤ d ∧ d ≤ k ∧ dd = .int .i64 d ∧ s = .bool p ∧ e = .bool q ∧ j = .int .i64 k ∧ Hid (p = false → q = false) ∧ Hid (N lim zs p q d k = N lim zs false false 0 0)) (fun _ _ _ j => len - (intOf j).toNat)
  case atStart => exact ⟨0, 0, false, false, by omega, by omega, by omega, rfl, rfl, rfl, rfl, fun _ => rfl, rfl⟩
  case round =>
    obtain ⟨k, d, p, q, hk, hd1, hd2, rfl, rfl, rfl, rfl, HQ, HE⟩ := hrel
    by_cases hlt : k < len
    · obtain ⟨b, o, rfl, hcell⟩ := HR.out.at (k := k) (by omega)
      obtain ⟨c, hc⟩ : ∃ c, zs.getD k 0 = c := ⟨_, rfl⟩
      rw [hc] at hcell
      have HC : Hid (zs.getD k 0 = c) := hc
      clear hc
      have hkz : k < zs.length := by omega
      cases p with
      | true =>
        cases q with
        | true =>
          have H1 : Hid (N lim zs true false d (k + 1) = N lim zs false false 0 0) := (N_tt lim zs d k hkz).symm.trans HE.out
          go_wp2
          go_round
          case rel => exact ⟨k + 1, d, true, false, by omega, by omega, by omega, rfl, rfl, rfl, by go_num, (fun h => by cases h), H1⟩
          case measure => simp [intOf]; omega
        | false =>
          by_cases h92 : c = 92
          · have b92 : (c == 92) = true := by simp [h92]
            have H1 : Hid (N lim zs true true d (k + 1) = N lim zs false false 0 0) := (N_bs lim zs d k c hkz HC.out h92).symm.trans HE.out
            clear h92
            go_wp2
            go_round
            case rel => exact ⟨k + 1, d, true, true, by omega, by omega, by omega, rfl, rfl, rfl, by go_num, (fun h => by cases h), H1⟩
            case measure => simp [intOf]; omega
          · have b92 : (c == 92) = false := by simp [h92]
            by_cases h34 : c = 34
            · have b34 : (c == 34) = true := by simp [h34]
              have H1 : Hid (N lim zs false false d (k + 1) = N lim zs false false 0 0) := (N_q lim zs d k c hkz HC.out h34).symm.trans HE.out
              clear h92 h34
              go_wp2
              go_round
              case rel => exact ⟨k + 1, d, false, false, by omega, by omega, by omega, rfl, rfl, rfl, by go_num, fun _ => rfl, H1⟩
              case measure => simp [intOf]; omega
            · have b34 : (c == 34) = false := by simp [h34]
              have H1 : Hid (N lim zs true false d (k + 1) = N lim zs false false 0 0) := (N_o lim zs d k c hkz HC.out h92 h34).symm.trans HE.out
              clear h92 h34
              go_wp2
              go_round
              case rel => exact ⟨k + 1, d, true, false, by omega, by omega, by omega, rfl, rfl, rfl, by go_num, (fun h => by cases h), H1⟩
              case measure => simp [intOf]; omega
      | false =>
        have hq : q = false := HQ.out rfl
        subst hq
        by_cases h34 : c = 34
        · have b34 : (c == 34) = true := by simp [h34]
          have H1 : Hid (N lim zs true false d (k + 1) = N lim zs false false 0 0) := (N_in lim zs d k c hkz HC.out h34).symm.trans HE.out
          clear h34
          go_wp2
          go_round
          case rel => exact ⟨k + 1, d, true, false, by omega, by omega, by omega, rfl, rfl, rfl, by go_num, (fun h => by cases h), H1⟩
          case measure => simp [intOf]; omega
        · have b34 : (c == 34) = false := by simp [h34]
          by_cases hop : c = 91 ∨ c = 123
          · have hb : (c == 91) = true ∨ ((c == 91) = false ∧ (c == 123) = true) := by
              by_cases h : c = 91
              · left; simp [h]
              · right; simp [h]; omega
            by_cases hl1 : lim < d + 1
            · have H1 : Hid (true = N lim zs false false 0 0) := (N_hit lim zs d k c hkz HC.out hop hl1).symm.trans HE.out
              clear h34 hop
              rcases hb with b91 | ⟨b91, b123⟩
              all_goals
                go_wp2
                go_ret
                exact ⟨ret_bool H1.out, rfl⟩
            · have H1 : Hid (N lim zs false false (d + 1) (k + 1) = N lim zs false false 0 0) := (N_up lim zs d k c hkz HC.out hop hl1).symm.trans HE.out
              clear h34 hop
              rcases hb with b91 | ⟨b91, b123⟩
              all_goals
                go_wp2
                go_round
                case rel => exact ⟨k + 1, d + 1, false, false, by omega, by omega, by omega, rfl, rfl, rfl, by go_num, fun _ => rfl, H1⟩
                case measure => simp [intOf]; omega
          · have b91 : (c == 91) = false := by simp; omega
            have b123 : (c == 123) = false := by simp; omega
            by_cases hcl : c = 93 ∨ c = 125
            · have hb : (c == 93) = true ∨ ((c == 93) = false ∧ (c == 125) = true) := by
                by_cases h : c = 93
                · left; simp [h]
                · right; simp [h]; omega
              have H1 : Hid (N lim zs false false (d - 1) (k + 1) = N lim zs false false 0 0) := (N_down lim zs d k c hkz HC.out hcl).symm.trans HE.out
              clear h34 hop hcl
              rcases hb with b93 | ⟨b93, b125⟩
              all_goals
                go_wp2
                go_round
                case rel => exact ⟨k + 1, d - 1, false, false, by omega, by omega, by omega, rfl, rfl, rfl, by go_num, fun _ => rfl, H1⟩
                case measure => simp [intOf]; omega
            · have b93 : (c == 93) = false := by simp; omega
              have b125 : (c == 125) = false := by simp; omega
              have H1 : Hid (N lim zs false false d (k + 1) = N lim zs false false 0 0) := (N_skip lim zs d k c hkz HC.out h34 hop hcl).symm.trans HE.out
              clear h34 hop hcl
              go_wp2
              go_round
              case rel => exact ⟨k + 1, d, false, false, by omega, by omega, by omega, rfl, rfl, rfl, by go_num, fun _ => rfl, H1⟩
              case measure => simp [intOf]; omega
    · have H1 : Hid (false = N lim zs false false 0 0) := (N_end lim zs p q d k (by omega)).symm.trans HE.out
      go_wp2
      go_ret
      exact ⟨ret_bool H1.out, rfl⟩
end Go.Proofs.Qxb6605558a
