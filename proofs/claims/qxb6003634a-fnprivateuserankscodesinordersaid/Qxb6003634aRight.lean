/-
  SEAT b6003634a: ZZprivateUse (8), isUserCode (17), privateUseRight (9).
-/
import Derived.Test.Qxb6003634aPriv
namespace Go.Proofs.Qxb6003634a
open Go.RowKit
open Plain

set_option maxHeartbeats 400000 in
theorem zpu_not2 (a : Option Addr) (n cap : Nat) (w : World) (hn : n < 2 ∨ 2 < n) :
    Calls Try.prog 8 #[.slice a n cap] w fun e w' => Ans e 0 false ∧ Below w.heap.size w w' := by
  go_enter Try.func8, Try.ntmps8
  go_wp2_with fail
  refine (pu_not2 a n cap _ hn).mono ?_
  rintro e w1 ⟨rfl, hb⟩
  go_wp2
  go_ret2
  exact ⟨rfl, hb⟩

set_option maxHeartbeats 400000 in
theorem zpu_two (b o cap : Nat) (x y : Int) (w : World) (h1 : 129 ≤ x) (h2 : x ≤ 254) (h3 : 64 ≤ y) (h4 : y ≤ 254) (h5 : y ≠ 127) (ht : Two w b o 2 x y) :
    Calls Try.prog 8 #[.slice (some ⟨b, o, none⟩) 2 cap] w fun e w' => Ans e (puR x y) (uB x y) ∧ Below w.heap.size w w' := by
  have HT : Hid (Two w b o 2 x y) := ht
  clear ht
  go_enter Try.func8, Try.ntmps8
  go_wp2_with fail
  refine (pu_two b o cap x y _ h1 h2 h3 h4 h5 HT.out).mono ?_
  rintro e w1 ⟨rfl, hb⟩
  go_wp2
  go_ret2
  exact ⟨rfl, hb⟩

/-! ### isUserCode: a region that draws, guarded, with a call in it -/
set_option maxHeartbeats 1000000 in
theorem uc_not2 (a : Option Addr) (n cap : Nat) (w : World) (hn : n < 2 ∨ 2 < n) :
    Calls Try.prog 17 #[.slice a n cap] w fun e w' => e = .returned (.bool false) ∧ Below w.heap.size w w' := by
  have hd : ((n : Int) == 2) = false := by simp; omega
  clear hn
  go_enter Try.func17, Try.ntmps17
  go_wp2
  go_quiet (fail)
  go_wp2
  go_ret
  exact ⟨rfl, below_drewN (Below.refl _ _) _⟩

set_option maxHeartbeats 1000000 in
theorem uc_two (b o cap : Nat) (x y : Int) (w : World) (hx : 0 ≤ x ∧ x ≤ 255) (hy : 0 ≤ y ∧ y ≤ 255) (ht : Two w b o 2 x y) :
    Calls Try.prog 17 #[.slice (some ⟨b, o, none⟩) 2 cap] w fun e w' => e = .returned (.bool (uB x y)) ∧ Below w.heap.size w w' := by
  obtain ⟨hc0, hc1⟩ := ht
  have hc1' := hc1 (Nat.le_refl _)
  clear hc1
  go_enter Try.func17, Try.ntmps17
  go_wp2
  go_quiet ((go_at_call 22; exact Calls.quiet_of_same (area_any x y _ hx hy)))
  go_wp2
  go_ret
  exact ⟨rfl, below_drewN (Below.refl _ _) _⟩

/-! ### privateUseRight -/
theorem Two.later {w w' : World} {b o n : Nat} {x y : Int} (h : Two w b o n x y) (hb : Below w.heap.size w w') : Two w' b o n x y :=
  ⟨(hb.cell (p := ⟨b, o, none⟩) (World.block_lt_of_cell? w _ h.1)).trans h.1, fun h2 => (hb.cell (p := ⟨b, o + 1, none⟩) (World.block_lt_of_cell? w _ (h.2 h2))).trans (h.2 h2)⟩

set_option maxHeartbeats 400000 in
theorem pr_not2 (a : Option Addr) (n cap : Nat) (w : World) (hn : n < 2 ∨ 2 < n) :
    Calls Try.prog 9 #[.slice a n cap, .int .i32 0, .bool false] w fun e w' => e = .returned (.bool true) ∧ Below w.heap.size w w' := by
  go_enter Try.func9, Try.ntmps9
  go_wp2_with fail
  refine (uc_not2 a n cap _ hn).mono ?_
  rintro e w1 ⟨rfl, hb⟩
  go_wp2
  go_ret
  exact ⟨rfl, hb⟩

set_option maxHeartbeats 400000 in
theorem pr_no (b o cap : Nat) (x y : Int) (w : World) (hx : 0 ≤ x ∧ x ≤ 255) (hy : 0 ≤ y ∧ y ≤ 255) (hu : uB x y = false) (ht : Two w b o 2 x y) :
    Calls Try.prog 9 #[.slice (some ⟨b, o, none⟩) 2 cap, .int .i32 0, .bool false] w fun e w' => e = .returned (.bool true) ∧ Below w.heap.size w w' := by
  have HT : Hid (Two w b o 2 x y) := ht
  clear ht
  go_enter Try.func9, Try.ntmps9
  go_wp2_with fail
  refine (uc_two b o cap x y _ hx hy HT.out).mono ?_
  rintro e w1 ⟨rfl, hb⟩
  rw [hu]
  go_wp2
  go_ret
  exact ⟨rfl, hb⟩

set_option maxHeartbeats 1000000 in
theorem pr_yes (b o cap : Nat) (x y : Int) (w : World) (hx : 0 ≤ x ∧ x ≤ 255) (hy : 0 ≤ y ∧ y ≤ 255) (hu : uB x y = true) (ht : Two w b o 2 x y) :
    Calls Try.prog 9 #[.slice (some ⟨b, o, none⟩) 2 cap, .int .i32 (57344 + rank x y), .bool true] w fun e w' => e = .returned (.bool true) ∧ Below w.heap.size w w' := by
  have HT : Hid (Two w b o 2 x y) := ht
  have hU := (uB_iff x y).1 hu
  have hbd := rank_bd x y hU
  obtain ⟨r, hr⟩ : ∃ r, rank x y = r := ⟨_, rfl⟩
  have HK : Hid (∀ n : Nat, n = 256 → T (ck x y) n = r) := fun n hn => by rw [hn]; exact (T_rank x y hU).trans hr
  rw [hr] at hbd
  rw [hr]
  obtain ⟨r1, r2⟩ := hbd
  clear ht hU hr
  go_enter Try.func9, Try.ntmps9
  go_wp2_with fail
  refine (uc_two b o cap x y _ hx hy HT.out).mono ?_
  rintro e w1 ⟨rfl, hb⟩
  rw [hu]
  clear hu
  obtain ⟨hc0, hc1⟩ := HT.out.later hb
  have hc1' := hc1 (Nat.le_refl _)
  clear hc1
  go_wp2
  go_quiet ((go_at_call 18; exact Calls.quiet_of_same (rank_any x y _ hx hy r HK)))
  go_wp2
  go_ret
  exact ⟨by simp, below_drewN hb _⟩

/-- privateUseRight takes what privateUse answers at a two-byte code. -/
theorem pr_two (b o cap : Nat) (x y : Int) (w : World) (hx : 0 ≤ x ∧ x ≤ 255) (hy : 0 ≤ y ∧ y ≤ 255) (ht : Two w b o 2 x y) :
    Calls Try.prog 9 #[.slice (some ⟨b, o, none⟩) 2 cap, .int .i32 (puR x y), .bool (uB x y)] w fun e w' => e = .returned (.bool true) ∧ Below w.heap.size w w' := by
  cases hu : uB x y with
  | true =>
    have e : puR x y = 57344 + rank x y := by unfold puR; rw [if_pos hu]
    rw [e]
    exact pr_yes b o cap x y w hx hy hu ht
  | false =>
    have e : puR x y = 0 := by unfold puR; rw [if_neg (by rw [hu]; simp)]
    rw [e]
    exact pr_no b o cap x y w hx hy hu ht
end Go.Proofs.Qxb6003634a
