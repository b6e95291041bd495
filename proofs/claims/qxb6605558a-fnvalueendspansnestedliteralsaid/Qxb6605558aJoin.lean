import Derived.Test.Qxb6605558aQuote
namespace Go.Proofs.Qxb6605558a
open Go.RowKit
open Plain

theorem Rd.src {w : World} {a : Option Addr} {zs : List Int} (h : Rd w a zs) : ∀ ad, a = some ad → ∀ j u, (zs.map (Value.int .u8))[j]? = some u → w.cell? (ad.add j) = some u := by
  intro ad had j u hu
  have hj : j < zs.length := by
    have := (List.getElem?_eq_some_iff.1 hu).1
    simpa using this
  obtain ⟨b, o, e, hc⟩ := h.at hj
  rw [e] at had
  cases had
  rw [Go.WideShapes.add_plain, hc, ← hu]
  simp [hj]

theorem zse_zero (a : Option Addr) (len cap : Nat) (zs : List Int) (w : World) (hl : zs.length = len) (hm : len ≤ 4611686018427387904) (hr : Rd w a zs) :
    Calls Try.prog 11 #[.slice a len cap, .int .i64 0] w fun e w' => e = .returned (.int .i64 (E zs false 1 : Nat)) ∧ w' = w :=
  zse_any a len cap zs 0 w hl hm (Nat.zero_le _) hr

set_option maxHeartbeats 400000 in
theorem zb13_yes (a b : Option Addr) (la ca lb cb : Nat) (w : World) (h : la + lb ≤ 1048576) : Calls Try.prog 13 #[.slice a la ca, .slice b lb cb] w fun e w' => e = .returned (.bool true) ∧ w' = w := by
  go_enter Try.func13, Try.ntmps13
  go_wp2
  go_ret
  exact ⟨rfl, rfl⟩
set_option maxHeartbeats 400000 in
theorem zb13_no (a b : Option Addr) (la ca lb cb : Nat) (w : World) (h : 1048576 < la + lb) : Calls Try.prog 13 #[.slice a la ca, .slice b lb cb] w fun e w' => e = .returned (.bool false) ∧ w' = w := by
  go_enter Try.func13, Try.ntmps13
  go_wp2
  all_goals
    go_ret
    exact ⟨rfl, rfl⟩
end Go.Proofs.Qxb6605558a
