import Derived.Test.Qxb6605558aRows
import Derived.Test.Qxb6605558aPlain
import Derived.WalkKit
import Derived.WalkSpells
import Derived.WalkLawsBesides
namespace Go.Proofs.Qxb6605558a
open Go.RowKit
open Plain

theorem ret_int {k : IntKind} {a b : Int} (h : a = b) : Ending.returned (.int k a) = .returned (.int k b) := by rw [h]

/-- A SLICE OF BYTES THAT CAN BE READ: empty, or the numbers 'zs' lie at its address. -/
def Rd (w : World) (a : Option Addr) (zs : List Int) : Prop :=
  zs = [] ∨ ∃ b o, a = some ⟨b, o, none⟩ ∧ ∀ i, i < zs.length → w.cell? ⟨b, o + i, none⟩ = some (.int .u8 (zs.getD i 0))

theorem Rd.at {w : World} {a : Option Addr} {zs : List Int} (h : Rd w a zs) {k : Nat} (hk : k < zs.length) :
    ∃ b o, a = some ⟨b, o, none⟩ ∧ w.cell? ⟨b, o + k, none⟩ = some (.int .u8 (zs.getD k 0)) := by
  rcases h with rfl | ⟨b, o, rfl, hc⟩
  · simp at hk
  · exact ⟨b, o, rfl, hc k hk⟩

set_option maxHeartbeats 400000 in
theorem se_any (a : Option Addr) (len cap : Nat) (zs : List Int) (i : Nat) (w : World) (hl : zs.length = len) (hm : len ≤ 4611686018427387904) (hi : i ≤ len) (hr : Rd w a zs) :
    Calls Try.prog 24 #[.slice a len cap, .int .i64 i] w fun e w' => e = .returned (.int .i64 (E zs false (i + 1) : Nat)) ∧ w' = w := by
  have HR : Hid (Rd w a zs) := hr; clear hr
  go_enter Try.func24, Try.ntmps24
  go_wp2
  go_loop [5] (fun j => ∃ k : Nat, k ≤ len + 1 ∧ j = .int .i64 k ∧ Hid (E zs false k = E zs false (i + 1))) (fun j => len + 2 - (intOf j).toNat)
  case atStart => exact ⟨i + 1, by omega, by go_num, rfl⟩
  case round =>
    obtain ⟨k, hk, rfl, HE⟩ := hrel
    by_cases hlt : k < len
    · obtain ⟨b, o, rfl, hcell⟩ := HR.out.at (k := k) (by omega)
      obtain ⟨c, hc⟩ : ∃ c, zs.getD k 0 = c := ⟨_, rfl⟩
      rw [hc] at hcell
      have HC : Hid (zs.getD k 0 = c) := hc
      clear hc
      by_cases h92 : c = 92
      · have b92 : (c == 92) = true := by simp [h92]
        have e1 := (E_bs zs k c (by omega) HC.out h92).symm.trans HE.out
        rw [E_esc] at e1
        have H1 : Hid (E zs false (k + 1 + 1) = E zs false (i + 1)) := e1
        clear e1 h92
        go_wp2
        go_round
        case rel => exact ⟨k + 1 + 1, by omega, by go_num, H1⟩
        case measure => simp [intOf]; omega
      · have b92 : (c == 92) = false := by simp [h92]
        by_cases h34 : c = 34
        · have b34 : (c == 34) = true := by simp [h34]
          have e1 := (E_q zs k c (by omega) HC.out h34).symm.trans HE.out
          have H1 : Hid (k + 1 = E zs false (i + 1)) := e1
          clear e1 h34 h92
          go_wp2
          go_ret
          exact ⟨ret_int (by rw [← H1.out]; omega), rfl⟩
        · have b34 : (c == 34) = false := by simp [h34]
          have e1 := (E_o zs k c (by omega) HC.out h92 h34).symm.trans HE.out
          have H1 : Hid (E zs false (k + 1) = E zs false (i + 1)) := e1
          clear e1 h34 h92
          go_wp2
          go_round
          case rel => exact ⟨k + 1, by omega, by go_num, H1⟩
          case measure => simp [intOf]; omega
    · have H1 : Hid (len = E zs false (i + 1)) := by
        show len = _
        rw [← HE.out, E_end zs false k (by omega)]; omega
      go_wp2
      go_ret
      exact ⟨ret_int (by rw [← H1.out]), rfl⟩

def odd (r : Nat) : Bool := r % 2 == 1
theorem odd_succ (r : Nat) : odd (r + 1) = !odd r := by
  unfold odd
  rw [Bool.eq_iff_iff]; simp; omega

set_option maxHeartbeats 400000 in
theorem sm_any (a : Option Addr) (len cap : Nat) (zs : List Int) (i : Nat) (w : World) (hl : zs.length = len) (hm : len ≤ 4611686018427387904) (hi : i ≤ len) (hr : Rd w a zs) :
    Calls Try.prog 12 #[.slice a len cap, .int .i64 i] w fun e w' => e = .returned (.int .i64 (E zs false (i + 1) : Nat)) ∧ w' = w := by
  have HR : Hid (Rd w a zs) := hr
  clear hr
  go_enter Try.func12, Try.ntmps12
  go_wp2
  go_loop [5, 6] (fun t j => ∃ k r : Nat, k ≤ len + 1 ∧ r ≤ k ∧ j = .int .i64 k ∧ t = .int .i64 r ∧ Hid (E zs (odd r) k = E zs false (i + 1))) (fun _ j => len + 2 - (intOf j).toNat)
  case atStart => exact ⟨i + 1, 0, by omega, by omega, by go_num, rfl, rfl⟩
  case round =>
    obtain ⟨k, r, hk, hrk, rfl, rfl, HE⟩ := hrel
    by_cases hlt : k < len
    · obtain ⟨b, o, rfl, hcell⟩ := HR.out.at (k := k) (by omega)
      obtain ⟨c, hc⟩ : ∃ c, zs.getD k 0 = c := ⟨_, rfl⟩
      rw [hc] at hcell
      have HC : Hid (zs.getD k 0 = c) := hc
      clear hc
      by_cases h92 : c = 92
      · have b92 : (c == 92) = true := by simp [h92]
        have b34 : (c == 34) = false := by simp [h92]
        have e1 := (E_run zs k c (odd r) (by omega) HC.out h92).symm.trans HE.out
        rw [← odd_succ] at e1
        have H1 : Hid (E zs (odd (r + 1)) (k + 1) = E zs false (i + 1)) := e1
        clear e1 h92
        go_wp2
        go_round
        case rel => exact ⟨k + 1, r + 1, by omega, by omega, by go_num, by go_num, H1⟩
        case measure => simp [intOf]; omega
      · have b92 : (c == 92) = false := by simp [h92]
        by_cases h34 : c = 34
        · have b34 : (c == 34) = true := by simp [h34]
          by_cases hod : r % 2 = 0
          · have e1 := (E_q zs k c (by omega) HC.out h34).symm
            have e2 : odd r = false := by unfold odd; simp; omega
            have HE' := HE.out
            rw [e2] at HE'
            have H1 : Hid (k + 1 = E zs false (i + 1)) := e1.trans HE'
            have hb : ((r : Int) % 2 == 0) = true := by simp; omega
            clear e1 e2 HE' h34 h92 hod
            go_wp2
            go_ret
            exact ⟨ret_int (by rw [← H1.out]; omega), rfl⟩
          · have e2 : odd r = true := by unfold odd; simp; omega
            have e1 := (E_oth zs k c (odd r) (by omega) HC.out h92 (.inr e2)).symm.trans HE.out
            have H1 : Hid (E zs (odd 0) (k + 1) = E zs false (i + 1)) := e1
            have hb : ((r : Int) % 2 == 0) = false := by simp; omega
            clear e1 e2 h34 h92 hod
            go_wp2
            go_round
            case rel => exact ⟨k + 1, 0, by omega, by omega, by go_num, rfl, H1⟩
            case measure => simp [intOf]; omega
        · have b34 : (c == 34) = false := by simp [h34]
          have e1 := (E_oth zs k c (odd r) (by omega) HC.out h92 (.inl h34)).symm.trans HE.out
          have H1 : Hid (E zs (odd 0) (k + 1) = E zs false (i + 1)) := e1
          clear e1 h34 h92
          go_wp2
          go_round
          case rel => exact ⟨k + 1, 0, by omega, by omega, by go_num, rfl, H1⟩
          case measure => simp [intOf]; omega
    · have H1 : Hid (len = E zs false (i + 1)) := by
        show len = _
        rw [← HE.out, E_end zs _ k (by omega)]; omega
      go_wp2
      go_ret
      exact ⟨ret_int (by rw [← H1.out]), rfl⟩
end Go.Proofs.Qxb6605558a
