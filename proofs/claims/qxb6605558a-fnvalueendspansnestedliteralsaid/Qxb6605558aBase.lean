import Derived.Test.Qxb6605558aClone
import Derived.OpenShut
namespace Go.Proofs.Qxb6605558a
open Go.RowKit
open Plain

/-- FROM WHAT THE ROW's STEP SAYS OF A SLICE OF BYTES TO 'Rd'. -/
theorem rd_of {w : World} {a : Option Addr} {len cap : Nat} {zs : List Int}
    (h : (a = none ∧ len = 0 ∧ cap = 0 ∧ zs = []) ∨ ∃ x, a = some x ∧ len ≤ cap ∧ cap ≤ maxLen ∧ zs.length = cap ∧ (∀ i, i < zs.length → w.cell? (x.add i) = some (.int .u8 (zs.getD i 0))) ∧ ∀ n ∈ zs, (Lit.int .u8 n).wf = true) :
    ∃ ys : List Int, Rd w a ys ∧ ys.length = len := by
  rcases h with ⟨rfl, rfl, rfl, rfl⟩ | ⟨x, rfl, hlc, _, hz, hc, _⟩
  · exact ⟨[], .inl rfl, rfl⟩
  · refine ⟨zs.take len, ?_, by rw [List.length_take]; omega⟩
    by_cases hp : 0 < zs.length
    · obtain ⟨b, off, rfl, hcell⟩ := ints_at hc hp
      refine .inr ⟨b, off, rfl, fun i hi => ?_⟩
      rw [List.length_take] at hi
      rw [hcell i (by omega)]
      congr 2
      simp [List.getD, show i < len from by omega]
    · exact .inl (by rw [List.eq_nil_of_length_eq_zero (show zs.length = 0 from by omega)]; simp)

/-! ### the bound on the total length, laid by program -/
set_option maxHeartbeats 400000 in
theorem zb9_yes (a : Option Addr) (len cap : Nat) (i : Int) (w : World) (h : len ≤ 1048576) : Calls Try.prog 9 #[.slice a len cap, .int .i64 i] w fun e w' => e = .returned (.bool true) ∧ w' = w := by
  go_enter Try.func9, Try.ntmps9
  go_wp2
  go_ret
  exact ⟨rfl, rfl⟩
set_option maxHeartbeats 400000 in
theorem zb9_no (a : Option Addr) (len cap : Nat) (i : Int) (w : World) (h : 1048576 < len) : Calls Try.prog 9 #[.slice a len cap, .int .i64 i] w fun e w' => e = .returned (.bool false) ∧ w' = w := by
  go_enter Try.func9, Try.ntmps9
  go_wp2
  go_ret
  exact ⟨rfl, rfl⟩

/-! ### the exported doors -/
set_option maxHeartbeats 400000 in
theorem zse_any (a : Option Addr) (len cap : Nat) (zs : List Int) (i : Nat) (w : World) (hl : zs.length = len) (hm : len ≤ 4611686018427387904) (hi : i ≤ len) (hr : Rd w a zs) :
    Calls Try.prog 11 #[.slice a len cap, .int .i64 i] w fun e w' => e = .returned (.int .i64 (E zs false (i + 1) : Nat)) ∧ w' = w := by
  have HR : Hid (Rd w a zs) := hr
  clear hr
  go_enter Try.func11, Try.ntmps11
  go_wp2_with (go_at_call 24; refine (se_any a len cap zs i _ hl hm hi HR.out).mono ?_; rintro e w' ⟨rfl, rfl⟩)
  go_ret
  exact ⟨rfl, rfl⟩
end Go.Proofs.Qxb6605558a
