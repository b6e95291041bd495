import Derived.Test.Qxb6605558aNest
namespace Go.Proofs.Qxb6605558a
open Go.RowKit
open Plain

/-- what the model knows at place k: whatever the limit, its two answers and the rest of the text tell whether the whole nests deeper -/
def Inv (zs : List Int) (has : Bool) (best d : Int) (k : Nat) : Prop := ∀ lim : Int, (top lim has best || N lim zs false false d k) = N lim zs false false 0 0

section
variable {zs : List Int} {has : Bool} {best d : Int} {k : Nat} {c : Int}
theorem Inv.jump (h : Inv zs has best d k) (hk : k < zs.length) (hc : zs.getD k 0 = c) (e : c = 34) : Inv zs has best d (E zs false (k + 1)) := by
  intro lim; rw [← N_jump lim zs d k c hk hc e]; exact h lim
theorem Inv.first (h : Inv zs false best d k) (hk : k < zs.length) (hc : zs.getD k 0 = c) (e : c = 91 ∨ c = 123) : Inv zs true (d + 1) (d + 1) (k + 1) := by
  intro lim; rw [← h lim, N_open lim zs d k c hk hc e, top_new lim best, Bool.or_assoc]
theorem Inv.more (h : Inv zs true best d k) (hk : k < zs.length) (hc : zs.getD k 0 = c) (e : c = 91 ∨ c = 123) (hl : best < d + 1) : Inv zs true (d + 1) (d + 1) (k + 1) := by
  intro lim; rw [← h lim, N_open lim zs d k c hk hc e, top_more lim best _ hl, Bool.or_assoc]
theorem Inv.less (h : Inv zs true best d k) (hk : k < zs.length) (hc : zs.getD k 0 = c) (e : c = 91 ∨ c = 123) (hl : ¬ best < d + 1) : Inv zs true best (d + 1) (k + 1) := by
  intro lim; rw [← h lim, N_open lim zs d k c hk hc e, top_less lim best _ hl, Bool.or_assoc]
  rw [← top_less lim best _ hl]
theorem Inv.down (h : Inv zs has best d k) (hk : k < zs.length) (hc : zs.getD k 0 = c) (e : c = 93 ∨ c = 125) : Inv zs has best (d - 1) (k + 1) := by
  intro lim; rw [← N_down lim zs d k c hk hc e]; exact h lim
theorem Inv.skip (h : Inv zs has best d k) (hk : k < zs.length) (hc : zs.getD k 0 = c) (h1 : c ≠ 34) (h2 : ¬ (c = 91 ∨ c = 123)) (h3 : ¬ (c = 93 ∨ c = 125)) : Inv zs has best d (k + 1) := by
  intro lim; rw [← N_skip lim zs d k c hk hc h1 h2 h3]; exact h lim
theorem Inv.done (h : Inv zs has best d k) (hk : zs.length ≤ k) : ∀ lim : Int, top lim has best = N lim zs false false 0 0 := by
  intro lim
  have := h lim
  rw [N_end lim zs false false d k hk, Bool.or_false] at this
  exact this
end

/-- the model's two answers, whatever the limit they are held against -/
def Deep (zs : List Int) (e : Ending) : Prop := ∃ (has : Bool) (best : Int), e = .returned (.tuple #[.bool has, .int .i64 best]) ∧ ∀ lim : Int, top lim has best = N lim zs false false 0 0

set_option maxHeartbeats 1000000 in
theorem depth_any (a : Option Addr) (len cap : Nat) (zs : List Int) (w : World) (hl : zs.length = len) (hm : len ≤ 2305843009213693952) (hr : Rd w a zs) :
    Calls Try.prog 21 #[.slice a len cap] w fun e w' => Deep zs e ∧ w' = w := by
  have HR : Hid (Rd w a zs) := hr
  clear hr
  go_enter Try.func21, Try.ntmps21
  go_wp2
  go_loop [5, 6, 7, 8] (fun dd bb hh j => ∃ (k : Nat) (d best : Int) (has : Bool), k ≤ len ∧ -(k : Int) ≤ d ∧ d ≤ k ∧ dd = .int .i64 d ∧ bb = .int .i64 best ∧ hh = .bool has ∧ j = .int .i64 k ∧ Hid (Inv zs has best d k)) (fun _ _ _ j => len - (intOf j).toNat)
  case atStart => exact ⟨0, 0, 0, false, by omega, by omega, by omega, rfl, rfl, rfl, rfl, fun lim => by simp [top]⟩
  case round =>
    obtain ⟨k, d, best, has, hk, hd1, hd2, rfl, rfl, rfl, rfl, HE⟩ := hrel
    by_cases hlt : k < len
    · obtain ⟨b, o, rfl, hcell⟩ := HR.out.at (k := k) (by omega)
      obtain ⟨c, hc⟩ : ∃ c, zs.getD k 0 = c := ⟨_, rfl⟩
      rw [hc] at hcell
      have HC : Hid (zs.getD k 0 = c) := hc
      clear hc
      have hkz : k < zs.length := by omega
      by_cases h34 : c = 34
      · have b34 : (c == 34) = true := by simp [h34]
        have H1 : Hid (Inv zs has best d (E zs false (k + 1))) := HE.out.jump hkz HC.out h34
        have hg := E_ge zs false (k + 1) (by omega)
        have hle := E_le zs false (k + 1)
        clear h34
        go_wp2_with (go_at_call 12; refine (sm_any _ len cap zs k _ hl (by omega) (by omega) HR.out).mono ?_; rintro e w ⟨rfl, rfl⟩)
        go_round
        case rel => exact ⟨E zs false (k + 1), d, best, has, by omega, by omega, by omega, rfl, rfl, rfl, rfl, H1⟩
        case measure => simp [intOf]; omega
      · have b34 : (c == 34) = false := by simp [h34]
        by_cases hop : c = 91 ∨ c = 123
        · have hb : (c == 91) = true ∨ ((c == 91) = false ∧ (c == 123) = true) := by
            by_cases h : c = 91
            · left; simp [h]
            · right; simp [h]; omega
          cases has with
          | false =>
            have H1 : Hid (Inv zs true (d + 1) (d + 1) (k + 1)) := HE.out.first hkz HC.out hop
            clear h34 hop
            rcases hb with b91 | ⟨b91, b123⟩
            all_goals
              go_wp2
              go_round
              case rel => exact ⟨k + 1, d + 1, d + 1, true, by omega, by omega, by omega, rfl, rfl, rfl, by go_num, H1⟩
              case measure => simp [intOf]; omega
          | true =>
            by_cases hbd : best < d + 1
            · have H1 : Hid (Inv zs true (d + 1) (d + 1) (k + 1)) := HE.out.more hkz HC.out hop hbd
              clear h34 hop
              rcases hb with b91 | ⟨b91, b123⟩
              all_goals
                go_wp2
                go_round
                case rel => exact ⟨k + 1, d + 1, d + 1, true, by omega, by omega, by omega, rfl, rfl, rfl, by go_num, H1⟩
                case measure => simp [intOf]; omega
            · have H1 : Hid (Inv zs true best (d + 1) (k + 1)) := HE.out.less hkz HC.out hop hbd
              clear h34 hop
              rcases hb with b91 | ⟨b91, b123⟩
              all_goals
                go_wp2
                go_round
                case rel => exact ⟨k + 1, d + 1, best, true, by omega, by omega, by omega, rfl, rfl, rfl, by go_num, H1⟩
                case measure => simp [intOf]; omega
        · have b91 : (c == 91) = false := by simp; omega
          have b123 : (c == 123) = false := by simp; omega
          by_cases hcl : c = 93 ∨ c = 125
          · have hb : (c == 93) = true ∨ ((c == 93) = false ∧ (c == 125) = true) := by
              by_cases h : c = 93
              · left; simp [h]
              · right; simp [h]; omega
            have H1 : Hid (Inv zs has best (d - 1) (k + 1)) := HE.out.down hkz HC.out hcl
            clear h34 hop hcl
            rcases hb with b93 | ⟨b93, b125⟩
            all_goals
              go_wp2
              go_round
              case rel => exact ⟨k + 1, d - 1, best, has, by omega, by omega, by omega, rfl, rfl, rfl, by go_num, H1⟩
              case measure => simp [intOf]; omega
          · have b93 : (c == 93) = false := by simp; omega
            have b125 : (c == 125) = false := by simp; omega
            have H1 : Hid (Inv zs has best d (k + 1)) := HE.out.skip hkz HC.out h34 hop hcl
            clear h34 hop hcl
            go_wp2
            go_round
            case rel => exact ⟨k + 1, d, best, has, by omega, by omega, by omega, rfl, rfl, rfl, by go_num, H1⟩
            case measure => simp [intOf]; omega
    · have H1 : Hid (∀ lim : Int, top lim has best = N lim zs false false 0 0) := HE.out.done (by omega)
      clear HE
      go_wp2
      go_ret2
      exact ⟨⟨has, best, rfl, H1.out⟩, rfl⟩
end Go.Proofs.Qxb6605558a
