/-
  SEAT b6003634a: the law FnPrivateUseRanksCodesInOrder (3), walked.
-/
import Derived.Test.Qxb6003634aRight
namespace Go.Proofs.Qxb6003634a
open Go.RowKit
open Plain

set_option maxHeartbeats 400000 in
theorem zb5_yes (a b : Option Addr) (la ca lb cb : Nat) (w : World) (h : la + lb ≤ 1048576) : Calls Try.prog 5 #[.slice a la ca, .slice b lb cb] w fun e w' => e = .returned (.bool true) ∧ w' = w := by
  go_enter Try.func5, Try.ntmps5
  go_wp2
  go_ret
  exact ⟨rfl, rfl⟩
set_option maxHeartbeats 400000 in
theorem zb5_no (a b : Option Addr) (la ca lb cb : Nat) (w : World) (h : 1048576 < la + lb) : Calls Try.prog 5 #[.slice a la ca, .slice b lb cb] w fun e w' => e = .returned (.bool false) ∧ w' = w := by
  go_enter Try.func5, Try.ntmps5
  go_wp2
  all_goals
    go_ret
    exact ⟨rfl, rfl⟩

set_option maxHeartbeats 400000 in
theorem tc_two (b o cap : Nat) (x y : Int) (w : World) (ht : Two w b o 2 x y) :
    Calls Try.prog 6 #[.slice (some ⟨b, o, none⟩) 2 cap] w fun e w' => e = .returned (.bool (leadB x && trailB y)) ∧ w' = w := by
  obtain ⟨hc0, hc1⟩ := ht
  have hc1' := hc1 (Nat.le_refl _)
  clear hc1
  cases hld : leadB x
  all_goals
    go_enter Try.func6, Try.ntmps6
    go_wp2_with (first | (go_at_call 14; refine (lead_any x _).mono ?_; rintro e w ⟨rfl, rfl⟩) | (go_at_call 15; refine (trail_any y _).mono ?_; rintro e w ⟨rfl, rfl⟩))
    go_ret
    exact ⟨by simp, rfl⟩

/-- a text of other than two bytes, or a two-byte code; and what privateUse answers at it -/
def Kind (ys : List Int) (n : Nat) (r : Int) (ok : Bool) : Prop :=
  ((n < 2 ∨ 2 < n) ∧ r = 0 ∧ ok = false) ∨
  (n = 2 ∧ (129 ≤ ys.getD 0 0 ∧ ys.getD 0 0 ≤ 254) ∧ (64 ≤ ys.getD 1 0 ∧ ys.getD 1 0 ≤ 254 ∧ ys.getD 1 0 ≠ 127) ∧ r = puR (ys.getD 0 0) (ys.getD 1 0) ∧ ok = uB (ys.getD 0 0) (ys.getD 1 0))

theorem Rd.two {w : World} {a : Option Addr} {zs : List Int} (h : Rd w a zs) (hp : 0 < zs.length) : ∃ b o, a = some ⟨b, o, none⟩ ∧ Two w b o zs.length (zs.getD 0 0) (zs.getD 1 0) := by
  obtain ⟨b, o, e, hc⟩ := h.at hp
  exact ⟨b, o, e, hc 0 hp, fun h2 => hc 1 (by omega)⟩

theorem zpu_kind (a : Option Addr) (n cap : Nat) (ys : List Int) (r : Int) (ok : Bool) (w : World) (hn : ys.length = n) (hk : Kind ys n r ok) (hr : Rd w a ys) :
    Calls Try.prog 8 #[.slice a n cap] w fun e w' => Ans e r ok ∧ Below w.heap.size w w' := by
  rcases hk with ⟨h2, rfl, rfl⟩ | ⟨rfl, ⟨g1, g2⟩, ⟨g3, g4, g5⟩, rfl, rfl⟩
  · exact zpu_not2 a n cap w h2
  · obtain ⟨b, o, rfl, ht⟩ := hr.two (by omega)
    rw [hn] at ht
    exact zpu_two b o cap _ _ w g1 g2 g3 g4 g5 ht

theorem pr_kind (a : Option Addr) (n cap : Nat) (ys : List Int) (r : Int) (ok : Bool) (w : World) (hn : ys.length = n) (hB : Bytes ys) (hk : Kind ys n r ok) (hr : Rd w a ys) :
    Calls Try.prog 9 #[.slice a n cap, .int .i32 r, .bool ok] w fun e w' => e = .returned (.bool true) ∧ Below w.heap.size w w' := by
  rcases hk with ⟨h2, rfl, rfl⟩ | ⟨rfl, ⟨g1, g2⟩, ⟨g3, g4, g5⟩, rfl, rfl⟩
  · exact pr_not2 a n cap w h2
  · obtain ⟨b, o, rfl, ht⟩ := hr.two (by omega)
    rw [hn] at ht
    exact pr_two b o cap _ _ w (hB 0) (hB 1) ht

/-- where the mark is true it is a user-defined code of two bytes -/
theorem Kind.yes {ys : List Int} {n : Nat} {r : Int} (h : Kind ys n r true) : n = 2 ∧ U (ys.getD 0 0) (ys.getD 1 0) ∧ r = 57344 + rank (ys.getD 0 0) (ys.getD 1 0) := by
  rcases h with ⟨_, _, h⟩ | ⟨h1, _, _, h2, h3⟩
  · cases h
  · refine ⟨h1, (uB_iff _ _).1 h3.symm, ?_⟩
    rw [h2, puR, if_pos h3.symm]

/-- the order of the runes is the order of the codes -/
theorem ord_of {f s g t a b : Int} (hu : U f s) (hv : U g t) (ha : a = 57344 + rank f s) (hb : b = 57344 + rank g t) :
    (a < b ∧ ck f s < ck g t) ∨ (b < a ∧ ck g t < ck f s) ∨ (a = b ∧ ck f s = ck g t) := by
  have h := rank_lt f s g t hu hv
  omega
end Go.Proofs.Qxb6003634a
