/-
  SEAT b6003634a: codeLength (20), ZZcodeLength (12), isLead (14), isTrail2 (15), isDigit4 (23), isWholeCode (21), prefixCodeLength (13).
-/
import Derived.Test.Qxb6003634aBase
import Derived.Test.Qxb6003634aCl
namespace Go.Proofs.Qxb6003634a
open Go.RowKit
open Plain

/-- the first two bytes of a slice of n bytes at b, o -/
def Two (w : World) (b o n : Nat) (x y : Int) : Prop := w.cell? ⟨b, o, none⟩ = some (.int .u8 x) ∧ (2 ≤ n → w.cell? ⟨b, o + 1, none⟩ = some (.int .u8 y))

set_option maxHeartbeats 1000000 in
theorem len_any (b o n cap : Nat) (x y : Int) (w : World) (hn : 1 ≤ n) (hm : n ≤ 4611686018427387904) (hx : 0 ≤ x ∧ x ≤ 255) (hy : 0 ≤ y ∧ y ≤ 255) (ht : Two w b o n x y) :
    Calls Try.prog 20 #[.slice (some ⟨b, o, none⟩) n cap] w fun e w' => e = .returned (.int .i64 (cl n x y : Nat)) ∧ w' = w := by
  obtain ⟨hc0, hc1⟩ := ht
  by_cases h1 : x < 128
  · have HA : Hid (cl n x y = 1) := cl_1 n x y h1
    clear hc1
    go_enter Try.func20, Try.ntmps20
    go_wp2
    go_ret
    exact ⟨ret_int (by rw [HA.out]; rfl), rfl⟩
  · by_cases h0 : x = 128 ∨ x = 255 ∨ n < 2
    · have HA : Hid (cl n x y = 0) := cl_0 n x y h1 h0
      clear hc1
      have hb : (x == 128) = true ∨ ((x == 128) = false ∧ (x == 255) = true) ∨ ((x == 128) = false ∧ (x == 255) = false ∧ n < 2) := by
        by_cases e1 : x = 128
        · left; simp [e1]
        · by_cases e2 : x = 255
          · right; left; simp [e2]
          · right; right; simp [e1, e2]; omega
      clear h0
      rcases hb with b1 | ⟨b1, b2⟩ | ⟨b1, b2, b3⟩
      all_goals
        go_enter Try.func20, Try.ntmps20
        go_wp2
        go_ret
        exact ⟨ret_int (by rw [HA.out]; rfl), rfl⟩
    · have hn2 : 2 ≤ n := by omega
      have hc1' := hc1 hn2
      clear hc1
      have b1 : (x == 128) = false := by simp; omega
      have b2 : (x == 255) = false := by simp; omega
      by_cases h2 : 64 ≤ y ∧ y ≤ 254 ∧ y ≠ 127
      · have HA : Hid (cl n x y = 2) := cl_2 n x y h1 h0 h2
        have b3 : (y != 127) = true := by simp; omega
        obtain ⟨g1, g2, _⟩ := h2
        clear h0
        go_enter Try.func20, Try.ntmps20
        go_wp2
        go_ret
        exact ⟨ret_int (by rw [HA.out]; rfl), rfl⟩
      · by_cases h4 : 4 ≤ n ∧ 48 ≤ y ∧ y ≤ 57
        · have HA : Hid (cl n x y = 4) := cl_4 n x y h1 h0 h2 h4
          obtain ⟨g1, g2, g3⟩ := h4
          clear h0 h2
          go_enter Try.func20, Try.ntmps20
          go_wp2
          go_ret
          exact ⟨ret_int (by rw [HA.out]; rfl), rfl⟩
        · have HA : Hid (cl n x y = 0) := cl_n n x y h1 h0 h2 h4
          have hw : (y < 64 ∧ (n < 4 ∨ (4 ≤ n ∧ y < 48) ∨ (4 ≤ n ∧ 48 ≤ y ∧ 57 < y))) ∨ (64 ≤ y ∧ 254 < y ∧ (n < 4 ∨ 4 ≤ n)) ∨ (127 ≤ y ∧ y ≤ 127 ∧ (n < 4 ∨ 4 ≤ n)) := by omega
          clear h0 h2 h4
          rcases hw with ⟨g1, g | ⟨g, g'⟩ | ⟨g, g', g''⟩⟩ | ⟨g1, g2, g | g⟩ | ⟨g1, g2, g | g⟩
          all_goals
            go_enter Try.func20, Try.ntmps20
            go_wp2
            go_ret
            exact ⟨ret_int (by rw [HA.out]; rfl), rfl⟩

set_option maxHeartbeats 400000 in
theorem zlen_any (b o n cap : Nat) (x y : Int) (w : World) (hn : 1 ≤ n) (hm : n ≤ 4611686018427387904) (hx : 0 ≤ x ∧ x ≤ 255) (hy : 0 ≤ y ∧ y ≤ 255) (ht : Two w b o n x y) :
    Calls Try.prog 12 #[.slice (some ⟨b, o, none⟩) n cap] w fun e w' => e = .returned (.int .i64 (cl n x y : Nat)) ∧ w' = w := by
  have HT : Hid (Two w b o n x y) := ht
  clear ht
  go_enter Try.func12, Try.ntmps12
  go_wp2_with (go_at_call 20; refine (len_any b o n cap x y _ hn hm hx hy HT.out).mono ?_; rintro e w ⟨rfl, rfl⟩)
  go_ret
  exact ⟨rfl, rfl⟩

/-! ### the law's own tests on bytes -/
def leadB (x : Int) : Bool := decide (129 ≤ x) && decide (x ≤ 254)
def trailB (y : Int) : Bool := decide (64 ≤ y) && decide (y ≤ 254) && decide (y ≠ 127)
def digB (y : Int) : Bool := decide (48 ≤ y) && decide (y ≤ 57)
theorem leadB_iff (x : Int) : leadB x = true ↔ 129 ≤ x ∧ x ≤ 254 := by simp [leadB]
theorem trailB_iff (y : Int) : trailB y = true ↔ 64 ≤ y ∧ y ≤ 254 ∧ y ≠ 127 := by simp [trailB, and_assoc]
theorem digB_iff (y : Int) : digB y = true ↔ 48 ≤ y ∧ y ≤ 57 := by simp [digB]

set_option maxHeartbeats 400000 in
theorem lead_any (x : Int) (w : World) : Calls Try.prog 14 #[.int .u8 x] w fun e w' => e = .returned (.bool (leadB x)) ∧ w' = w := by
  by_cases h1 : 129 ≤ x
  · by_cases h2 : x ≤ 254
    · have HA : Hid (leadB x = true) := (leadB_iff x).2 ⟨h1, h2⟩
      go_enter Try.func14, Try.ntmps14
      go_wp2
      go_ret
      exact ⟨ret_bool HA.out.symm, rfl⟩
    · have HA : Hid (leadB x = false) := by show _ = _; rw [← Bool.not_eq_true, leadB_iff]; omega
      go_enter Try.func14, Try.ntmps14
      go_wp2
      go_ret
      exact ⟨ret_bool HA.out.symm, rfl⟩
  · have HA : Hid (leadB x = false) := by show _ = _; rw [← Bool.not_eq_true, leadB_iff]; omega
    go_enter Try.func14, Try.ntmps14
    go_wp2
    go_ret
    exact ⟨ret_bool HA.out.symm, rfl⟩

set_option maxHeartbeats 400000 in
theorem dig_any (x : Int) (w : World) : Calls Try.prog 23 #[.int .u8 x] w fun e w' => e = .returned (.bool (digB x)) ∧ w' = w := by
  by_cases h1 : 48 ≤ x
  · by_cases h2 : x ≤ 57
    · have HA : Hid (digB x = true) := (digB_iff x).2 ⟨h1, h2⟩
      go_enter Try.func23, Try.ntmps23
      go_wp2
      go_ret
      exact ⟨ret_bool HA.out.symm, rfl⟩
    · have HA : Hid (digB x = false) := by show _ = _; rw [← Bool.not_eq_true, digB_iff]; omega
      go_enter Try.func23, Try.ntmps23
      go_wp2
      go_ret
      exact ⟨ret_bool HA.out.symm, rfl⟩
  · have HA : Hid (digB x = false) := by show _ = _; rw [← Bool.not_eq_true, digB_iff]; omega
    go_enter Try.func23, Try.ntmps23
    go_wp2
    go_ret
    exact ⟨ret_bool HA.out.symm, rfl⟩

set_option maxHeartbeats 400000 in
theorem trail_any (x : Int) (w : World) : Calls Try.prog 15 #[.int .u8 x] w fun e w' => e = .returned (.bool (trailB x)) ∧ w' = w := by
  by_cases h : 64 ≤ x ∧ x ≤ 254 ∧ x ≠ 127
  · have HA : Hid (trailB x = true) := (trailB_iff x).2 h
    have b : (x != 127) = true := by simp; omega
    obtain ⟨h1, h2, _⟩ := h
    go_enter Try.func15, Try.ntmps15
    go_wp2
    go_ret
    exact ⟨ret_bool HA.out.symm, rfl⟩
  · have HA : Hid (trailB x = false) := by show _ = _; rw [← Bool.not_eq_true, trailB_iff]; exact h
    have hw : x < 64 ∨ (64 ≤ x ∧ 254 < x) ∨ (127 ≤ x ∧ x ≤ 127) := by omega
    clear h
    rcases hw with g | ⟨g, g'⟩ | ⟨g, g'⟩
    all_goals
      go_enter Try.func15, Try.ntmps15
      go_wp2
      go_ret
      exact ⟨ret_bool (by first | exact HA.out.symm | (rw [HA.out]; simp; omega)), rfl⟩

/-! ### isWholeCode at 1, 2 and 4 bytes -/
set_option maxHeartbeats 400000 in
theorem whole1 (b o cap : Nat) (x y : Int) (w : World) (ht : Two w b o 1 x y) :
    Calls Try.prog 21 #[.slice (some ⟨b, o, none⟩) 1 cap] w fun e w' => e = .returned (.bool (decide (x < 128))) ∧ w' = w := by
  obtain ⟨hc0, _⟩ := ht
  go_enter Try.func21, Try.ntmps21
  go_wp2
  go_ret
  exact ⟨rfl, rfl⟩
set_option maxHeartbeats 400000 in
theorem whole2 (b o cap : Nat) (x y : Int) (w : World) (ht : Two w b o 2 x y) :
    Calls Try.prog 21 #[.slice (some ⟨b, o, none⟩) 2 cap] w fun e w' => e = .returned (.bool (leadB x && trailB y)) ∧ w' = w := by
  obtain ⟨hc0, hc1⟩ := ht
  have hc1' := hc1 (Nat.le_refl _)
  clear hc1
  cases hld : leadB x
  all_goals
    go_enter Try.func21, Try.ntmps21
    go_wp2_with (first | (go_at_call 14; refine (lead_any x _).mono ?_; rintro e w ⟨rfl, rfl⟩) | (go_at_call 15; refine (trail_any y _).mono ?_; rintro e w ⟨rfl, rfl⟩))
    go_ret
    exact ⟨by simp, rfl⟩
set_option maxHeartbeats 400000 in
theorem whole4 (b o cap : Nat) (x y : Int) (w : World) (ht : Two w b o 4 x y) :
    Calls Try.prog 21 #[.slice (some ⟨b, o, none⟩) 4 cap] w fun e w' => e = .returned (.bool (leadB x && digB y)) ∧ w' = w := by
  obtain ⟨hc0, hc1⟩ := ht
  have hc1' := hc1 (by omega)
  clear hc1
  cases hld : leadB x
  all_goals
    go_enter Try.func21, Try.ntmps21
    go_wp2_with (first | (go_at_call 14; refine (lead_any x _).mono ?_; rintro e w ⟨rfl, rfl⟩) | (go_at_call 23; refine (dig_any y _).mono ?_; rintro e w ⟨rfl, rfl⟩))
    go_ret
    exact ⟨by simp, rfl⟩

theorem Two.cut {w : World} {b o n : Nat} {x y : Int} (h : Two w b o n x y) (k : Nat) (hk : k ≤ n) : Two w b o k x y := ⟨h.1, fun h2 => h.2 (by omega)⟩
end Go.Proofs.Qxb6003634a
