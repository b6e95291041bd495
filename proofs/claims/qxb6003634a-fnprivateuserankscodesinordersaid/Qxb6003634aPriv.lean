/-
  SEAT b6003634a: privateUse (16), ZZprivateUse (8).
-/
import Derived.Test.Qxb6003634aRank
import Derived.Test.Qxb6003634aLen
import Derived.Deep.QuietTactic
import Derived.BigQuiet
import Derived.WalkSmall
namespace Go.Proofs.Qxb6003634a
open Go.RowKit
open Plain

/-- what privateUse answers: the rune and the mark -/
def Ans (e : Ending) (r : Int) (ok : Bool) : Prop := e = .returned (.tuple #[.int .i32 r, .bool ok])

set_option maxHeartbeats 400000 in
theorem pu_not2 (a : Option Addr) (n cap : Nat) (w : World) (hn : n < 2 ∨ 2 < n) :
    Calls Try.prog 16 #[.slice a n cap] w fun e w' => Ans e 0 false ∧ Below w.heap.size w w' := by
  have hb : ((n : Int) != 2) = true := by simp; omega
  clear hn
  go_enter Try.func16, Try.ntmps16
  go_wp2
  go_ret2
  exact ⟨rfl, Below.refl _ _⟩

theorem ans_of {a r : Int} {ok : Bool} (h : a = r) : Ans (.returned (.tuple #[.int .i32 a, .bool ok])) r ok := by rw [h]; rfl

set_option maxHeartbeats 1000000 in
theorem pu_1 (b o cap : Nat) (x y : Int) (w : World) (h1 : 170 ≤ x) (h2 : x ≤ 175) (h3 : 161 ≤ y) (h4 : y ≤ 254) (ht : Two w b o 2 x y) :
    Calls Try.prog 16 #[.slice (some ⟨b, o, none⟩) 2 cap] w fun e w' => Ans e (57344 + rank x y) true ∧ Below w.heap.size w w' := by
  obtain ⟨hc0, hc1⟩ := ht
  have hc1' := hc1 (Nat.le_refl _)
  clear hc1
  have HA : Hid (rank x y = (x - 170) * 94 + (y - 161)) := rank_1 x y ⟨h1, h2⟩
  go_enter Try.func16, Try.ntmps16
  go_wp2
  go_quiet (fail)
  go_wp2
  go_ret2
  exact ⟨ans_of (by rw [HA.out]; omega), below_drewN (Below.refl _ _) _⟩

set_option maxHeartbeats 1000000 in
theorem pu_2 (b o cap : Nat) (x y : Int) (w : World) (h1 : 248 ≤ x) (h2 : x ≤ 254) (h3 : 161 ≤ y) (h4 : y ≤ 254) (ht : Two w b o 2 x y) :
    Calls Try.prog 16 #[.slice (some ⟨b, o, none⟩) 2 cap] w fun e w' => Ans e (57344 + rank x y) true ∧ Below w.heap.size w w' := by
  obtain ⟨hc0, hc1⟩ := ht
  have hc1' := hc1 (Nat.le_refl _)
  clear hc1
  have HA : Hid (rank x y = 564 + (x - 248) * 94 + (y - 161)) := rank_2 x y ⟨h1, h2⟩
  go_enter Try.func16, Try.ntmps16
  go_wp2
  go_quiet (fail)
  go_wp2
  go_ret2
  exact ⟨ans_of (by rw [HA.out]; omega), below_drewN (Below.refl _ _) _⟩

set_option maxHeartbeats 1000000 in
theorem pu_3 (b o cap : Nat) (x y : Int) (w : World) (h1 : 161 ≤ x) (h2 : x ≤ 167) (h3 : 64 ≤ y) (h4 : y ≤ 160) (ht : Two w b o 2 x y) :
    Calls Try.prog 16 #[.slice (some ⟨b, o, none⟩) 2 cap] w fun e w' => Ans e (57344 + rank x y) true ∧ Below w.heap.size w w' := by
  obtain ⟨hc0, hc1⟩ := ht
  have hc1' := hc1 (Nat.le_refl _)
  clear hc1
  have HA0 := rank_3 x y ⟨h1, h2⟩
  by_cases hy : 127 < y
  · rw [if_pos hy] at HA0
    have HA : Hid (rank x y = 1222 + (x - 161) * 96 + (y - 65)) := HA0
    clear HA0
    go_enter Try.func16, Try.ntmps16
    go_wp2
    go_quiet (fail)
    go_wp2
    go_ret2
    exact ⟨ans_of (by rw [HA.out]; omega), below_drewN (Below.refl _ _) _⟩
  · rw [if_neg hy] at HA0
    have HA : Hid (rank x y = 1222 + (x - 161) * 96 + (y - 64)) := HA0
    clear HA0
    go_enter Try.func16, Try.ntmps16
    go_wp2
    go_quiet (fail)
    go_wp2
    go_ret2
    exact ⟨ans_of (by rw [HA.out]; omega), below_drewN (Below.refl _ _) _⟩

set_option maxHeartbeats 1000000 in
theorem pu_no (b o cap : Nat) (x y : Int) (w : World) (h1 : 129 ≤ x) (h2 : x ≤ 254) (h3 : 64 ≤ y) (h4 : y ≤ 254) (h5 : y ≠ 127) (hu : ¬ U x y) (ht : Two w b o 2 x y) :
    Calls Try.prog 16 #[.slice (some ⟨b, o, none⟩) 2 cap] w fun e w' => Ans e 0 false ∧ Below w.heap.size w w' := by
  obtain ⟨hc0, hc1⟩ := ht
  have hc1' := hc1 (Nat.le_refl _)
  clear hc1
  unfold U at hu
  have hw : (x < 161) ∨ (167 < x ∧ x < 170) ∨ (175 < x ∧ x < 248) ∨ (170 ≤ x ∧ x ≤ 175 ∧ y < 161) ∨ (248 ≤ x ∧ y < 161) ∨ (161 ≤ x ∧ x ≤ 167 ∧ 160 < y) := by omega
  clear hu h5
  rcases hw with g | ⟨g, g'⟩ | ⟨g, g'⟩ | ⟨g, g', g''⟩ | ⟨g, g'⟩ | ⟨g, g', g''⟩
  all_goals
    go_enter Try.func16, Try.ntmps16
    go_wp2
    go_quiet (fail)
    go_wp2
    go_ret2
    exact ⟨rfl, below_drewN (Below.refl _ _) _⟩

/-- privateUse at a text of two bytes that is a two-byte code: what it answers. -/
def puR (x y : Int) : Int := if uB x y = true then 57344 + rank x y else 0
theorem pu_two (b o cap : Nat) (x y : Int) (w : World) (h1 : 129 ≤ x) (h2 : x ≤ 254) (h3 : 64 ≤ y) (h4 : y ≤ 254) (h5 : y ≠ 127) (ht : Two w b o 2 x y) :
    Calls Try.prog 16 #[.slice (some ⟨b, o, none⟩) 2 cap] w fun e w' => Ans e (puR x y) (uB x y) ∧ Below w.heap.size w w' := by
  cases hu : uB x y with
  | true =>
    have e : puR x y = 57344 + rank x y := by unfold puR; rw [if_pos hu]
    rw [e]
    rw [uB_iff] at hu
    unfold U at hu
    rcases hu with g | g | g
    · exact pu_1 b o cap x y w g.1 g.2.1 g.2.2.1 g.2.2.2 ht
    · exact pu_2 b o cap x y w g.1 g.2.1 g.2.2.1 g.2.2.2 ht
    · exact pu_3 b o cap x y w g.1 g.2.1 g.2.2.1 g.2.2.2.1 ht
  | false =>
    have e : puR x y = 0 := by unfold puR; rw [if_neg (by rw [hu]; simp)]
    rw [e]
    exact pu_no b o cap x y w h1 h2 h3 h4 h5 ((uB_no x y).1 hu) ht
end Go.Proofs.Qxb6003634a
