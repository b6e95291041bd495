import Derived.Test.Qxb6605558aBase
namespace Go.Proofs.Qxb6605558a
open Go.RowKit
open Plain

/-! ### httpapi.valueEnd -/
set_option maxHeartbeats 400000 in
theorem ve_end (a : Option Addr) (len cap : Nat) (zs : List Int) (w : World) (hl : zs.length = len) :
    Calls Try.prog 25 #[.slice a len cap, .int .i64 len] w fun e w' => e = .returned (.int .i64 (VE zs len : Nat)) ∧ w' = w := by
  have HA : Hid (VE zs len = len) := VE_end zs len hl.symm
  go_enter Try.func25, Try.ntmps25
  go_wp2
  go_ret
  exact ⟨ret_int (by rw [HA.out]), rfl⟩

set_option maxHeartbeats 400000 in
theorem ve_str (a : Option Addr) (len cap : Nat) (zs : List Int) (i : Nat) (c : Int) (w : World) (hl : zs.length = len) (hm : len ≤ 2305843009213693952) (hi : i < len) (hr : Rd w a zs) (hc : zs.getD i 0 = c) (h : c = 34) :
    Calls Try.prog 25 #[.slice a len cap, .int .i64 i] w fun e w' => e = .returned (.int .i64 (VE zs i : Nat)) ∧ w' = w := by
  have HA : Hid (VE zs i = E zs false (i + 1)) := VE_str zs i c (by omega) hc h
  obtain ⟨b, o, rfl, hcell⟩ := hr.at (k := i) (by omega)
  rw [hc] at hcell
  have HR : Hid (Rd w (some ⟨b, o, none⟩) zs) := hr
  have hne : ((i : Int) == (len : Int)) = false := by simp; omega
  have b34 : (c == 34) = true := by simp [h]
  clear hr hc h
  go_enter Try.func25, Try.ntmps25
  go_wp2_with (go_at_call 24; refine (se_any _ len cap zs i _ hl (by omega) (by omega) HR.out).mono ?_; rintro e w ⟨rfl, rfl⟩)
  go_ret
  exact ⟨ret_int (by rw [HA.out]), rfl⟩

set_option maxHeartbeats 1000000 in
theorem ve_br (a : Option Addr) (len cap : Nat) (zs : List Int) (i : Nat) (c : Int) (w : World) (hl : zs.length = len) (hm : len ≤ 2305843009213693952) (hi : i < len) (hr : Rd w a zs) (hc : zs.getD i 0 = c) (h : c = 123 ∨ c = 91) :
    Calls Try.prog 25 #[.slice a len cap, .int .i64 i] w fun e w' => e = .returned (.int .i64 (VE zs i : Nat)) ∧ w' = w := by
  have HA : Hid (VE zs i = V zs false false 0 i) := VE_br zs i c (by omega) hc h
  obtain ⟨b, o, rfl, hcell0⟩ := hr.at (k := i) (by omega)
  rw [hc] at hcell0
  have HR : Hid (Rd w (some ⟨b, o, none⟩) zs) := hr
  have hne : ((i : Int) == (len : Int)) = false := by simp; omega
  have b34 : (c == 34) = false := by simp; omega
  have hb0 : (c == 123) = true ∨ ((c == 123) = false ∧ (c == 91) = true) := by
    by_cases h' : c = 123
    · left; simp [h']
    · right; simp [h']; omega
  clear hr hc h
  rcases hb0 with b123 | ⟨b123, b91⟩
  all_goals
    go_enter Try.func25, Try.ntmps25
    go_wp2
    clear hcell0
    go_loop [5, 6] (fun dd j => ∃ (k : Nat) (d : Int), k ≤ len ∧ -(k : Int) ≤ d ∧ d ≤ k ∧ dd = .int .i64 d ∧ j = .int .i64 k ∧ Hid (V zs false false d k = V zs false false 0 i)) (fun _ j => len - (intOf j).toNat)
    case atStart => exact ⟨i, 0, by omega, by omega, by omega, rfl, rfl, rfl⟩
    case round =>
      obtain ⟨k, d, hk, hd1, hd2, rfl, rfl, HE⟩ := hrel
      by_cases hlt : k < len
      · obtain ⟨b', o', hbo, hcell⟩ := HR.out.at (k := k) (by omega)
        cases hbo
        obtain ⟨x, hc⟩ : ∃ x, zs.getD k 0 = x := ⟨_, rfl⟩
        rw [hc] at hcell
        have HC : Hid (zs.getD k 0 = x) := hc
        clear hc
        have hkz : k < zs.length := by omega
        by_cases h34 : x = 34
        · have x34 : (x == 34) = true := by simp [h34]
          have H1 : Hid (V zs false false d (E zs false (k + 1)) = V zs false false 0 i) := (V_jump zs d k x hkz HC.out h34).symm.trans HE.out
          have hg := E_ge zs false (k + 1) (by omega)
          have hle := E_le zs false (k + 1)
          clear h34
          go_wp2_with (go_at_call 24; refine (se_any _ len cap zs k _ hl (by omega) (by omega) HR.out).mono ?_; rintro e w ⟨rfl, rfl⟩)
          go_round
          case rel => exact ⟨E zs false (k + 1), d, by omega, by omega, by omega, rfl, by go_num, H1⟩
          case measure => simp [intOf]; omega
        · have x34 : (x == 34) = false := by simp [h34]
          by_cases hop : x = 123 ∨ x = 91
          · have hb : (x == 123) = true ∨ ((x == 123) = false ∧ (x == 91) = true) := by
              by_cases h' : x = 123
              · left; simp [h']
              · right; simp [h']; omega
            have H1 : Hid (V zs false false (d + 1) (k + 1) = V zs false false 0 i) := (V_up zs d k x hkz HC.out hop).symm.trans HE.out
            clear h34 hop
            rcases hb with x123 | ⟨x123, x91⟩
            all_goals
              go_wp2
              go_round
              case rel => exact ⟨k + 1, d + 1, by omega, by omega, by omega, rfl, by go_num, H1⟩
              case measure => simp [intOf]; omega
          · have x123 : (x == 123) = false := by simp; omega
            have x91 : (x == 91) = false := by simp; omega
            by_cases hcl : x = 125 ∨ x = 93
            · have hb : (x == 125) = true ∨ ((x == 125) = false ∧ (x == 93) = true) := by
                by_cases h' : x = 125
                · left; simp [h']
                · right; simp [h']; omega
              by_cases hd0 : d - 1 = 0
              · have H1 : Hid (k + 1 = V zs false false 0 i) := (V_stop zs d k x hkz HC.out hcl hd0).symm.trans HE.out
                obtain rfl : d = 1 := by omega
                clear h34 hop hcl hd0
                rcases hb with x125 | ⟨x125, x93⟩
                all_goals
                  go_wp2
                  go_ret
                  exact ⟨ret_int (by rw [HA.out, ← H1.out]; omega), rfl⟩
              · have H1 : Hid (V zs false false (d - 1) (k + 1) = V zs false false 0 i) := (V_down zs d k x hkz HC.out hcl hd0).symm.trans HE.out
                have hdb : (d - 1 == 0) = false := by simp; omega
                clear h34 hop hcl hd0
                rcases hb with x125 | ⟨x125, x93⟩
                all_goals
                  go_wp2
                  go_round
                  case rel => exact ⟨k + 1, d - 1, by omega, by omega, by omega, rfl, by go_num, H1⟩
                  case measure => simp [intOf]; omega
            · have x125 : (x == 125) = false := by simp; omega
              have x93 : (x == 93) = false := by simp; omega
              have H1 : Hid (V zs false false d (k + 1) = V zs false false 0 i) := (V_skip zs d k x hkz HC.out h34 hop hcl).symm.trans HE.out
              clear h34 hop hcl
              go_wp2
              go_round
              case rel => exact ⟨k + 1, d, by omega, by omega, by omega, rfl, by go_num, H1⟩
              case measure => simp [intOf]; omega
      · have H1 : Hid (len = V zs false false 0 i) := by
          show len = _
          rw [← HE.out, V_end zs false false d k (by omega)]; omega
        go_wp2
        go_ret
        exact ⟨ret_int (by rw [HA.out, ← H1.out]), rfl⟩

set_option maxHeartbeats 1000000 in
theorem ve_bare (a : Option Addr) (len cap : Nat) (zs : List Int) (i : Nat) (c : Int) (w : World) (hl : zs.length = len) (hm : len ≤ 2305843009213693952) (hi : i < len) (hr : Rd w a zs) (hc : zs.getD i 0 = c) (h1 : c ≠ 34) (h : ¬ (c = 123 ∨ c = 91)) :
    Calls Try.prog 25 #[.slice a len cap, .int .i64 i] w fun e w' => e = .returned (.int .i64 (VE zs i : Nat)) ∧ w' = w := by
  have HA : Hid (VE zs i = S zs i) := VE_bare zs i c (by omega) hc h1 h
  obtain ⟨b, o, rfl, hcell0⟩ := hr.at (k := i) (by omega)
  rw [hc] at hcell0
  have HR : Hid (Rd w (some ⟨b, o, none⟩) zs) := hr
  have hne : ((i : Int) == (len : Int)) = false := by simp; omega
  have b34 : (c == 34) = false := by simp; omega
  have b123 : (c == 123) = false := by simp; omega
  have b91 : (c == 91) = false := by simp; omega
  clear hr hc h h1
  go_enter Try.func25, Try.ntmps25
  go_wp2
  clear hcell0
  go_loop [7] (fun j => ∃ (k : Nat), k ≤ len ∧ j = .int .i64 k ∧ Hid (S zs k = S zs i)) (fun j => len - (intOf j).toNat)
  case atStart => exact ⟨i, by omega, rfl, rfl⟩
  case round =>
    obtain ⟨k, hk, rfl, HE⟩ := hrel
    by_cases hlt : k < len
    · obtain ⟨b', o', hbo, hcell⟩ := HR.out.at (k := k) (by omega)
      cases hbo
      obtain ⟨x, hc⟩ : ∃ x, zs.getD k 0 = x := ⟨_, rfl⟩
      rw [hc] at hcell
      have HC : Hid (zs.getD k 0 = x) := hc
      clear hc
      have hkz : k < zs.length := by omega
      by_cases hst : x = 44 ∨ x = 125 ∨ x = 93
      · have H1 : Hid (k = S zs i) := (S_hit zs k x hkz HC.out hst).symm.trans HE.out
        have hb : (x == 44) = true ∨ ((x == 44) = false ∧ (x == 125) = true) ∨ ((x == 44) = false ∧ (x == 125) = false ∧ (x == 93) = true) := by
          by_cases h' : x = 44
          · left; simp [h']
          · by_cases h'' : x = 125
            · right; left; simp [h'']
            · right; right; simp [h', h'']; omega
        clear hst
        rcases hb with x44 | ⟨x44, x125⟩ | ⟨x44, x125, x93⟩
        all_goals
          go_wp2
          go_ret
          exact ⟨ret_int (by rw [HA.out, ← H1.out]), rfl⟩
      · have H1 : Hid (S zs (k + 1) = S zs i) := (S_miss zs k x hkz HC.out hst).symm.trans HE.out
        have x44 : (x == 44) = false := by simp; omega
        have x125 : (x == 125) = false := by simp; omega
        have x93 : (x == 93) = false := by simp; omega
        clear hst
        go_wp2
        go_round
        case rel => exact ⟨k + 1, by omega, by go_num, H1⟩
        case measure => simp [intOf]; omega
    · have H1 : Hid (len = S zs i) := by
        show len = _
        rw [← HE.out, S_end zs k (by omega)]; omega
      go_wp2
      go_ret
      exact ⟨ret_int (by rw [HA.out, ← H1.out]), rfl⟩

/-- valueEnd, whatever stands at i. -/
theorem ve_any (a : Option Addr) (len cap : Nat) (zs : List Int) (i : Nat) (w : World) (hl : zs.length = len) (hm : len ≤ 2305843009213693952) (hi : i ≤ len) (hr : Rd w a zs) :
    Calls Try.prog 25 #[.slice a len cap, .int .i64 i] w fun e w' => e = .returned (.int .i64 (VE zs i : Nat)) ∧ w' = w := by
  by_cases h : i < len
  · by_cases h34 : zs.getD i 0 = 34
    · exact ve_str a len cap zs i _ w hl hm h hr rfl h34
    · by_cases hb : zs.getD i 0 = 123 ∨ zs.getD i 0 = 91
      · exact ve_br a len cap zs i _ w hl hm h hr rfl hb
      · exact ve_bare a len cap zs i _ w hl hm h hr rfl h34 hb
  · obtain rfl : i = len := by omega
    exact ve_end a i cap zs w hl

set_option maxHeartbeats 400000 in
theorem zve_any (a : Option Addr) (len cap : Nat) (zs : List Int) (i : Nat) (w : World) (hl : zs.length = len) (hm : len ≤ 2305843009213693952) (hi : i ≤ len) (hr : Rd w a zs) :
    Calls Try.prog 16 #[.slice a len cap, .int .i64 i] w fun e w' => e = .returned (.int .i64 (VE zs i : Nat)) ∧ w' = w := by
  have HR : Hid (Rd w a zs) := hr
  clear hr
  go_enter Try.func16, Try.ntmps16
  go_wp2_with (go_at_call 25; refine (ve_any a len cap zs i _ hl hm hi HR.out).mono ?_; rintro e w ⟨rfl, rfl⟩)
  go_ret
  exact ⟨rfl, rfl⟩
end Go.Proofs.Qxb6605558a
