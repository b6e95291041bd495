/-
  THE PLAIN MATHEMATICS OF SEAT b6003634a, FIRST PART: the length of a code. Numbers alone, no Go in sight.
-/
namespace Go.Proofs.Qxb6003634a.Plain

/-! ### the length of a code, by its first two bytes and how many bytes there are -/
def cl (n : Nat) (x y : Int) : Nat :=
  if x < 128 then 1
  else if x = 128 ∨ x = 255 ∨ n < 2 then 0
  else if 64 ≤ y ∧ y ≤ 254 ∧ y ≠ 127 then 2
  else if 4 ≤ n ∧ 48 ≤ y ∧ y ≤ 57 then 4
  else 0
theorem cl_1 (n : Nat) (x y : Int) (h : x < 128) : cl n x y = 1 := by unfold cl; rw [if_pos h]
theorem cl_0 (n : Nat) (x y : Int) (h : ¬ x < 128) (h0 : x = 128 ∨ x = 255 ∨ n < 2) : cl n x y = 0 := by unfold cl; rw [if_neg h, if_pos h0]
theorem cl_2 (n : Nat) (x y : Int) (h : ¬ x < 128) (h0 : ¬ (x = 128 ∨ x = 255 ∨ n < 2)) (h2 : 64 ≤ y ∧ y ≤ 254 ∧ y ≠ 127) : cl n x y = 2 := by unfold cl; rw [if_neg h, if_neg h0, if_pos h2]
theorem cl_4 (n : Nat) (x y : Int) (h : ¬ x < 128) (h0 : ¬ (x = 128 ∨ x = 255 ∨ n < 2)) (h2 : ¬ (64 ≤ y ∧ y ≤ 254 ∧ y ≠ 127)) (h4 : 4 ≤ n ∧ 48 ≤ y ∧ y ≤ 57) : cl n x y = 4 := by unfold cl; rw [if_neg h, if_neg h0, if_neg h2, if_pos h4]
theorem cl_n (n : Nat) (x y : Int) (h : ¬ x < 128) (h0 : ¬ (x = 128 ∨ x = 255 ∨ n < 2)) (h2 : ¬ (64 ≤ y ∧ y ≤ 254 ∧ y ≠ 127)) (h4 : ¬ (4 ≤ n ∧ 48 ≤ y ∧ y ≤ 57)) : cl n x y = 0 := by unfold cl; rw [if_neg h, if_neg h0, if_neg h2, if_neg h4]

/-- THE LAW: where it is r > 0: it fits, r bytes alone are read as r, fewer are no code, and whatever stands behind changes nothing. -/
theorem cl_law (n : Nat) (x y : Int) (hn : 1 ≤ n) (r : Nat) (hr : cl n x y = r) (h0 : 1 ≤ r) :
    r ≤ n ∧ cl r x y = r ∧ (∀ k : Nat, 1 ≤ k → k < r → cl k x y = 0) ∧ ∀ (m : Nat) (y' : Int), (2 ≤ n → y' = y) → cl (n + m) x y' = r := by
  unfold cl at hr
  split at hr
  · rename_i h
    subst hr
    exact ⟨hn, cl_1 _ _ _ h, fun k h1 h2 => by omega, fun m y' _ => cl_1 _ _ _ h⟩
  · rename_i h
    split at hr
    · omega
    · rename_i h1
      split at hr
      · rename_i h2
        subst hr
        refine ⟨by omega, cl_2 _ _ _ h (by omega) h2, fun k k1 k2 => cl_0 _ _ _ h (by omega), fun m y' e => ?_⟩
        have e' := e (by omega)
        subst e'
        exact cl_2 _ _ _ h (by omega) h2
      · rename_i h2
        split at hr
        · rename_i h4
          subst hr
          refine ⟨by omega, cl_4 _ _ _ h (by omega) h2 (by omega), fun k k1 k2 => ?_, fun m y' e => ?_⟩
          · by_cases hk : k < 2
            · exact cl_0 _ _ _ h (by omega)
            · exact cl_n _ _ _ h (by omega) h2 (by omega)
          · have e' := e (by omega)
            subst e'
            exact cl_4 _ _ _ h (by omega) h2 (by omega)
        · omega

end Go.Proofs.Qxb6003634a.Plain
