/-
  THE PLAIN MATHEMATICS OF SEAT b6003634a: numbers alone, no Go in sight.
  U, ck: the user-defined area and the order of its codes. R, T: the count of the codes that come before a key.
-/
namespace Go.Proofs.Qxb6003634a.Plain

/-! ### the order of the user-defined codes -/
def U (f s : Int) : Prop := (170 ≤ f ∧ f ≤ 175 ∧ 161 ≤ s ∧ s ≤ 254) ∨ (248 ≤ f ∧ f ≤ 254 ∧ 161 ≤ s ∧ s ≤ 254) ∨ (161 ≤ f ∧ f ≤ 167 ∧ 64 ≤ s ∧ s ≤ 160 ∧ s ≠ 127)
theorem U_dec (f s : Int) : U f s ∨ ¬ U f s := Classical.em _
def uB (f s : Int) : Bool := (decide (170 ≤ f) && decide (f ≤ 175) && decide (161 ≤ s) && decide (s ≤ 254)) || (decide (248 ≤ f) && decide (f ≤ 254) && decide (161 ≤ s) && decide (s ≤ 254)) || (decide (161 ≤ f) && decide (f ≤ 167) && decide (64 ≤ s) && decide (s ≤ 160) && decide (s ≠ 127))
theorem uB_iff (f s : Int) : uB f s = true ↔ U f s := by
  unfold uB U
  simp only [Bool.or_eq_true, Bool.and_eq_true, decide_eq_true_eq]
  omega
theorem uB_no (f s : Int) : uB f s = false ↔ ¬ U f s := by rw [← uB_iff]; simp
def ak (f : Int) : Int := if f ≤ 167 then f + 256 else f
def ck (f s : Int) : Int := ak f * 256 + s
/-- of the second bytes below n: how many make a user-defined code with x that comes before the key k -/
def R (k x : Int) : Nat → Int
  | 0 => 0
  | n + 1 => R k x n + (if uB x n = true ∧ ck x n < k then 1 else 0)
def T (k : Int) : Nat → Int
  | 0 => 0
  | n + 1 => T k n + R k n 256
theorem R_bd (k x : Int) (n : Nat) : 0 ≤ R k x n ∧ R k x n ≤ n := by
  induction n with
  | zero => simp [R]
  | succ n ih => rw [R]; split <;> omega
theorem T_bd (k : Int) (n : Nat) : 0 ≤ T k n ∧ T k n ≤ 256 * n := by
  induction n with
  | zero => simp [T]
  | succ n ih => have := R_bd k n 256; rw [T]; omega
theorem R_yes (k x : Int) (n : Nat) (h1 : uB x n = true) (h2 : ck x n < k) : R k x (n + 1) = R k x n + 1 := by rw [R, if_pos ⟨h1, h2⟩]
theorem R_no (k x : Int) (n : Nat) (h : uB x n = false ∨ ¬ ck x n < k) : R k x (n + 1) = R k x n := by
  rw [R, if_neg (by rcases h with h | h <;> simp [h])]; omega

/-- a row's count, in closed form -/
theorem R_a (k x : Int) (hx : (170 ≤ x ∧ x ≤ 175) ∨ (248 ≤ x ∧ x ≤ 254)) (n : Nat) : R k x n = max 0 (min (min (n : Int) 255) (k - ak x * 256) - 161) := by
  induction n with
  | zero => rw [R]; simp; omega
  | succ n ih =>
    rw [R, ih]
    by_cases hc : uB x n = true ∧ ck x n < k
    · rw [if_pos hc]; rw [uB_iff] at hc; unfold U ck at hc; omega
    · rw [if_neg hc]; rw [uB_iff] at hc; unfold U ck at hc; omega
theorem R_c (k x : Int) (hx : 161 ≤ x ∧ x ≤ 167) (n : Nat) : R k x n = max 0 (min (min (n : Int) 161) (k - ak x * 256) - 64) - (if 127 < min (min (n : Int) 161) (k - ak x * 256) then 1 else 0) := by
  induction n with
  | zero => rw [R]; split <;> omega
  | succ n ih =>
    rw [R, ih]
    by_cases hc : uB x n = true ∧ ck x n < k
    · rw [if_pos hc]; rw [uB_iff] at hc; unfold U ck at hc; split <;> split <;> omega
    · rw [if_neg hc]; rw [uB_iff] at hc; unfold U ck at hc; split <;> split <;> omega
theorem R_z (k x : Int) (h1 : ¬ ((170 ≤ x ∧ x ≤ 175) ∨ (248 ≤ x ∧ x ≤ 254))) (h2 : ¬ (161 ≤ x ∧ x ≤ 167)) (n : Nat) : R k x n = 0 := by
  induction n with
  | zero => rw [R]
  | succ n ih =>
    rw [R, ih, if_neg (by rw [uB_iff]; unfold U; omega)]; omega

/-- a row's count at the key of a user-defined code: full ahead of it, a part at it, nothing behind it -/
theorem R_full_a (f s x : Int) (hu : U f s) (hx : (170 ≤ x ∧ x ≤ 175) ∨ (248 ≤ x ∧ x ≤ 254)) : R (ck f s) x 256 = if ak x < ak f then 94 else if x = f then s - 161 else 0 := by
  rw [R_a _ _ hx]
  unfold U at hu
  unfold ck ak
  split <;> (repeat split) <;> omega
theorem R_full_c (f s x : Int) (hu : U f s) (hx : 161 ≤ x ∧ x ≤ 167) : R (ck f s) x 256 = if ak x < ak f then 96 else if x = f then (if 127 < s then s - 65 else s - 64) else 0 := by
  rw [R_c _ _ hx]
  unfold U at hu
  unfold ck ak
  split <;> (repeat split) <;> omega

/-- the rank, in closed form -/
def rank (f s : Int) : Int :=
  if f ≤ 167 then 1222 + (f - 161) * 96 + (if 127 < s then s - 65 else s - 64)
  else if f ≤ 175 then (f - 170) * 94 + (s - 161)
  else 564 + (f - 248) * 94 + (s - 161)

def cut (n a b : Int) : Int := max 0 (min n b - a)

theorem T_1 (f s : Int) (hu : U f s) (h : 170 ≤ f ∧ f ≤ 175) (n : Nat) (hn : n ≤ 256) : T (ck f s) n = 94 * cut n 170 f + (if f < n then s - 161 else 0) := by
  induction n with
  | zero => rw [T]; unfold cut; split <;> omega
  | succ n ih =>
    rw [T, ih (by omega)]
    by_cases h1 : (170 ≤ (n : Int) ∧ (n : Int) ≤ 175) ∨ (248 ≤ (n : Int) ∧ (n : Int) ≤ 254)
    · rw [R_full_a f s n hu h1]; unfold cut ak; split <;> (repeat split) <;> omega
    · by_cases h2 : 161 ≤ (n : Int) ∧ (n : Int) ≤ 167
      · rw [R_full_c f s n hu h2]; unfold cut ak; split <;> (repeat split) <;> omega
      · rw [R_z _ _ h1 h2]; unfold cut; split <;> split <;> omega
theorem T_2 (f s : Int) (hu : U f s) (h : 248 ≤ f ∧ f ≤ 254) (n : Nat) (hn : n ≤ 256) : T (ck f s) n = 94 * cut n 170 176 + 94 * cut n 248 f + (if f < n then s - 161 else 0) := by
  induction n with
  | zero => rw [T]; unfold cut; split <;> omega
  | succ n ih =>
    rw [T, ih (by omega)]
    by_cases h1 : (170 ≤ (n : Int) ∧ (n : Int) ≤ 175) ∨ (248 ≤ (n : Int) ∧ (n : Int) ≤ 254)
    · rw [R_full_a f s n hu h1]; unfold cut ak; split <;> (repeat split) <;> omega
    · by_cases h2 : 161 ≤ (n : Int) ∧ (n : Int) ≤ 167
      · rw [R_full_c f s n hu h2]; unfold cut ak; split <;> (repeat split) <;> omega
      · rw [R_z _ _ h1 h2]; unfold cut; split <;> split <;> omega
theorem T_3 (f s : Int) (hu : U f s) (h : 161 ≤ f ∧ f ≤ 167) (n : Nat) (hn : n ≤ 256) : T (ck f s) n = 94 * cut n 170 176 + 94 * cut n 248 255 + 96 * cut n 161 f + (if f < n then (if 127 < s then s - 65 else s - 64) else 0) := by
  induction n with
  | zero => rw [T]; unfold cut; split <;> omega
  | succ n ih =>
    rw [T, ih (by omega)]
    by_cases h1 : (170 ≤ (n : Int) ∧ (n : Int) ≤ 175) ∨ (248 ≤ (n : Int) ∧ (n : Int) ≤ 254)
    · rw [R_full_a f s n hu h1]; unfold cut ak; split <;> (repeat split) <;> omega
    · by_cases h2 : 161 ≤ (n : Int) ∧ (n : Int) ≤ 167
      · rw [R_full_c f s n hu h2]; unfold cut ak; split <;> (repeat split) <;> omega
      · rw [R_z _ _ h1 h2]; unfold cut; split <;> (repeat split) <;> omega
theorem rank_1 (f s : Int) (h : 170 ≤ f ∧ f ≤ 175) : rank f s = (f - 170) * 94 + (s - 161) := by unfold rank; rw [if_neg (by omega), if_pos (by omega)]
theorem rank_2 (f s : Int) (h : 248 ≤ f ∧ f ≤ 254) : rank f s = 564 + (f - 248) * 94 + (s - 161) := by unfold rank; rw [if_neg (by omega), if_neg (by omega)]
theorem rank_3 (f s : Int) (h : 161 ≤ f ∧ f ≤ 167) : rank f s = 1222 + (f - 161) * 96 + (if 127 < s then s - 65 else s - 64) := by unfold rank; rw [if_pos (by omega)]
theorem ck_12 (f s : Int) (h : 167 < f) : ck f s = f * 256 + s := by unfold ck ak; rw [if_neg (by omega)]
theorem ck_3 (f s : Int) (h : f ≤ 167) : ck f s = (f + 256) * 256 + s := by unfold ck ak; rw [if_pos (by omega)]
theorem T_rank (f s : Int) (hu : U f s) : T (ck f s) 256 = rank f s := by
  have hu' := hu
  unfold U at hu'
  rcases hu' with h | h | h
  · rw [T_1 f s hu (by omega) 256 (by omega), rank_1 f s (by omega), if_pos (by omega)]; unfold cut; omega
  · rw [T_2 f s hu (by omega) 256 (by omega), rank_2 f s (by omega), if_pos (by omega)]; unfold cut; omega
  · rw [T_3 f s hu (by omega) 256 (by omega), rank_3 f s (by omega), if_pos (by omega)]; unfold cut; omega
theorem rank_bd (f s : Int) (hu : U f s) : 0 ≤ rank f s ∧ rank f s ≤ 1893 := by
  unfold U at hu
  unfold rank
  split <;> (repeat split) <;> omega
theorem rank_lt (f s g t : Int) (hu : U f s) (hv : U g t) : (rank f s < rank g t ↔ ck f s < ck g t) ∧ (rank f s = rank g t ↔ ck f s = ck g t) := by
  unfold U at hu hv
  rcases hu with hu | hu | hu
  · rw [rank_1 f s (by omega), ck_12 f s (by omega)]
    rcases hv with hv | hv | hv
    · rw [rank_1 g t (by omega), ck_12 g t (by omega)]; omega
    · rw [rank_2 g t (by omega), ck_12 g t (by omega)]; omega
    · rw [rank_3 g t (by omega), ck_3 g t (by omega)]; split <;> omega
  · rw [rank_2 f s (by omega), ck_12 f s (by omega)]
    rcases hv with hv | hv | hv
    · rw [rank_1 g t (by omega), ck_12 g t (by omega)]; omega
    · rw [rank_2 g t (by omega), ck_12 g t (by omega)]; omega
    · rw [rank_3 g t (by omega), ck_3 g t (by omega)]; split <;> omega
  · rw [rank_3 f s (by omega), ck_3 f s (by omega)]
    rcases hv with hv | hv | hv
    · rw [rank_1 g t (by omega), ck_12 g t (by omega)]; split <;> omega
    · rw [rank_2 g t (by omega), ck_12 g t (by omega)]; split <;> omega
    · rw [rank_3 g t (by omega), ck_3 g t (by omega)]; split <;> split <;> omega

end Go.Proofs.Qxb6003634a.Plain
