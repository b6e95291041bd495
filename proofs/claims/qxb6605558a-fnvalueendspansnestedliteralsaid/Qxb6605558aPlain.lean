/-
  THE PLAIN MATHEMATICS OF SEAT b6605558a: lists of numbers alone, no Go in sight.
  seF, E: where a string literal ends. ve, V: where a bracketed value ends. sc, S: where a bare value ends. nd: does it nest deeper than a limit. md: the greatest depth. quoteL, wrapL: the literal, and brackets around it.
-/
namespace Go.Proofs.Qxb6605558a.Plain

theorem drop_at (zs : List Int) (k : Nat) (c : Int) (hk : k < zs.length) (hc : zs.getD k 0 = c) : zs.drop k = c :: zs.drop (k + 1) := by
  rw [List.drop_eq_getElem_cons hk]
  simp [List.getD, hk] at hc
  rw [hc]

/-! ### strings -/
def seF : Bool → List Int → Nat
  | _, [] => 0
  | true, _ :: t => 1 + seF false t
  | false, c :: t => if c == 92 then 1 + seF true t else if c == 34 then 1 else 1 + seF false t

def E (zs : List Int) (b : Bool) (j : Nat) : Nat := min zs.length (j + seF b (zs.drop j))

theorem E_end (zs : List Int) (b : Bool) (k : Nat) (h : zs.length ≤ k) : E zs b k = zs.length := by unfold E; omega
theorem E_le (zs : List Int) (b : Bool) (k : Nat) : E zs b k ≤ zs.length := by unfold E; omega
theorem E_ge (zs : List Int) (b : Bool) (k : Nat) (h : k ≤ zs.length) : k ≤ E zs b k := by unfold E; omega
theorem E_esc (zs : List Int) (k : Nat) : E zs true k = E zs false (k + 1) := by
  by_cases hk : k < zs.length
  · unfold E
    rw [drop_at zs k _ hk rfl, seF]
    omega
  · rw [E_end _ _ _ (by omega), E_end _ _ _ (by omega)]
theorem E_bs (zs : List Int) (k : Nat) (c : Int) (hk : k < zs.length) (hc : zs.getD k 0 = c) (h : c = 92) : E zs false k = E zs true (k + 1) := by
  unfold E
  rw [drop_at zs k c hk hc, seF, if_pos (by simp [h])]
  omega
theorem E_q (zs : List Int) (k : Nat) (c : Int) (hk : k < zs.length) (hc : zs.getD k 0 = c) (h : c = 34) : E zs false k = k + 1 := by
  unfold E
  rw [drop_at zs k c hk hc, seF, if_neg (by simp [h]), if_pos (by simp [h])]
  omega
theorem E_o (zs : List Int) (k : Nat) (c : Int) (hk : k < zs.length) (hc : zs.getD k 0 = c) (h1 : c ≠ 92) (h2 : c ≠ 34) : E zs false k = E zs false (k + 1) := by
  unfold E
  rw [drop_at zs k c hk hc, seF, if_neg (by simp [h1]), if_neg (by simp [h2])]
  omega

/-- the parity model's step: a quote behind an even run -/
theorem E_run (zs : List Int) (k : Nat) (c : Int) (b : Bool) (hk : k < zs.length) (hc : zs.getD k 0 = c) (h : c = 92) : E zs b k = E zs (!b) (k + 1) := by
  cases b
  · exact E_bs zs k c hk hc h
  · exact E_esc zs k
theorem E_oth (zs : List Int) (k : Nat) (c : Int) (b : Bool) (hk : k < zs.length) (hc : zs.getD k 0 = c) (h1 : c ≠ 92) (h2 : c ≠ 34 ∨ b = true) : E zs b k = E zs false (k + 1) := by
  cases b
  · exact E_o zs k c hk hc h1 (by simpa using h2)
  · exact E_esc zs k

/-! ### bracketed values: in a string? escaped? the depth -/
def ve : Bool → Bool → Int → List Int → Nat
  | _, _, _, [] => 0
  | true, true, d, _ :: t => 1 + ve true false d t
  | true, false, d, c :: t => if c == 92 then 1 + ve true true d t else if c == 34 then 1 + ve false false d t else 1 + ve true false d t
  | false, b, d, c :: t =>
    if c == 34 then 1 + ve true b d t
    else if c == 123 || c == 91 then 1 + ve false b (d + 1) t
    else if c == 125 || c == 93 then (if d - 1 = 0 then 1 else 1 + ve false b (d - 1) t)
    else 1 + ve false b d t

def V (zs : List Int) (a b : Bool) (d : Int) (k : Nat) : Nat := k + ve a b d (zs.drop k)

theorem V_end (zs : List Int) (a b : Bool) (d : Int) (k : Nat) (h : k = zs.length) : V zs a b d k = zs.length := by
  unfold V
  rw [List.drop_eq_nil_of_le (by omega)]
  cases a <;> cases b <;> simp [ve, h]

section
variable (zs : List Int) (d : Int) (k : Nat) (c : Int) (hk : k < zs.length) (hc : zs.getD k 0 = c)
theorem V_tt (hk : k < zs.length) : V zs true true d k = V zs true false d (k + 1) := by
  unfold V; rw [drop_at zs k _ hk rfl, ve]; omega
theorem V_bs (hk : k < zs.length) (hc : zs.getD k 0 = c) (h : c = 92) : V zs true false d k = V zs true true d (k + 1) := by
  unfold V; rw [drop_at zs k c hk hc, ve, if_pos (by simp [h])]; omega
theorem V_q (hk : k < zs.length) (hc : zs.getD k 0 = c) (h : c = 34) : V zs true false d k = V zs false false d (k + 1) := by
  unfold V; rw [drop_at zs k c hk hc, ve, if_neg (by simp [h]), if_pos (by simp [h])]; omega
theorem V_o (hk : k < zs.length) (hc : zs.getD k 0 = c) (h1 : c ≠ 92) (h2 : c ≠ 34) : V zs true false d k = V zs true false d (k + 1) := by
  unfold V; rw [drop_at zs k c hk hc, ve, if_neg (by simp [h1]), if_neg (by simp [h2])]; omega
theorem V_in (hk : k < zs.length) (hc : zs.getD k 0 = c) (h : c = 34) : V zs false false d k = V zs true false d (k + 1) := by
  unfold V; rw [drop_at zs k c hk hc, ve, if_pos (by simp [h])]; omega
theorem V_up (hk : k < zs.length) (hc : zs.getD k 0 = c) (h : c = 123 ∨ c = 91) : V zs false false d k = V zs false false (d + 1) (k + 1) := by
  unfold V; rw [drop_at zs k c hk hc, ve, if_neg (by simp; omega), if_pos (by simpa using h)]; omega
theorem V_down (hk : k < zs.length) (hc : zs.getD k 0 = c) (h : c = 125 ∨ c = 93) (hd : d - 1 ≠ 0) : V zs false false d k = V zs false false (d - 1) (k + 1) := by
  unfold V; rw [drop_at zs k c hk hc, ve, if_neg (by simp; omega), if_neg (by simp; omega), if_pos (by simpa using h), if_neg hd]; omega
theorem V_stop (hk : k < zs.length) (hc : zs.getD k 0 = c) (h : c = 125 ∨ c = 93) (hd : d - 1 = 0) : V zs false false d k = k + 1 := by
  unfold V; rw [drop_at zs k c hk hc, ve, if_neg (by simp; omega), if_neg (by simp; omega), if_pos (by simpa using h), if_pos hd]
theorem V_skip (hk : k < zs.length) (hc : zs.getD k 0 = c) (h1 : c ≠ 34) (h2 : ¬ (c = 123 ∨ c = 91)) (h3 : ¬ (c = 125 ∨ c = 93)) : V zs false false d k = V zs false false d (k + 1) := by
  unfold V; rw [drop_at zs k c hk hc, ve, if_neg (by simpa using h1), if_neg (by simpa using h2), if_neg (by simpa using h3)]; omega
end

/-- INSIDE A STRING the value goes on behind the string's end. -/
theorem V_str (zs : List Int) (d : Int) : ∀ (n k : Nat) (b : Bool), zs.length - k = n → k ≤ zs.length → V zs true b d k = V zs false false d (E zs b k) := by
  intro n
  induction n with
  | zero =>
    intro k b hn hk
    rw [E_end _ _ _ (by omega), V_end _ _ _ _ _ (by omega), V_end _ _ _ _ _ rfl]
  | succ n ih =>
    intro k b hn hk
    have hlt : k < zs.length := by omega
    cases b
    · by_cases h92 : zs.getD k 0 = 92
      · rw [V_bs zs d k _ hlt rfl h92, E_bs zs k _ hlt rfl h92]
        exact ih (k + 1) true (by omega) (by omega)
      · by_cases h34 : zs.getD k 0 = 34
        · rw [V_q zs d k _ hlt rfl h34, E_q zs k _ hlt rfl h34]
        · rw [V_o zs d k _ hlt rfl h92 h34, E_o zs k _ hlt rfl h92 h34]
          exact ih (k + 1) false (by omega) (by omega)
    · rw [V_tt zs d k hlt, E_esc]
      exact ih (k + 1) false (by omega) (by omega)

theorem V_jump (zs : List Int) (d : Int) (k : Nat) (c : Int) (hk : k < zs.length) (hc : zs.getD k 0 = c) (h : c = 34) : V zs false false d k = V zs false false d (E zs false (k + 1)) := by
  rw [V_in zs d k c hk hc h]
  exact V_str zs d _ (k + 1) false rfl (by omega)

/-! ### bare values -/
def sc : List Int → Nat
  | [] => 0
  | c :: t => if c == 44 || c == 125 || c == 93 then 0 else 1 + sc t
def S (zs : List Int) (k : Nat) : Nat := k + sc (zs.drop k)
theorem S_end (zs : List Int) (k : Nat) (h : k = zs.length) : S zs k = zs.length := by
  unfold S; rw [List.drop_eq_nil_of_le (by omega)]; simp [sc, h]
theorem S_hit (zs : List Int) (k : Nat) (c : Int) (hk : k < zs.length) (hc : zs.getD k 0 = c) (h : c = 44 ∨ c = 125 ∨ c = 93) : S zs k = k := by
  unfold S; rw [drop_at zs k c hk hc, sc, if_pos (by simp; omega)]; omega
theorem S_miss (zs : List Int) (k : Nat) (c : Int) (hk : k < zs.length) (hc : zs.getD k 0 = c) (h : ¬ (c = 44 ∨ c = 125 ∨ c = 93)) : S zs k = S zs (k + 1) := by
  unfold S; rw [drop_at zs k c hk hc, sc, if_neg (by simp; omega)]; omega

/-! ### the value's end -/
def VE (zs : List Int) (i : Nat) : Nat :=
  if i = zs.length then i
  else if zs.getD i 0 = 34 then E zs false (i + 1)
  else if zs.getD i 0 = 123 ∨ zs.getD i 0 = 91 then V zs false false 0 i
  else S zs i
theorem VE_end (zs : List Int) (i : Nat) (h : i = zs.length) : VE zs i = i := by unfold VE; rw [if_pos h]
theorem VE_str (zs : List Int) (i : Nat) (c : Int) (hk : i < zs.length) (hc : zs.getD i 0 = c) (h : c = 34) : VE zs i = E zs false (i + 1) := by
  unfold VE; rw [if_neg (by omega), if_pos (by omega)]
theorem VE_br (zs : List Int) (i : Nat) (c : Int) (hk : i < zs.length) (hc : zs.getD i 0 = c) (h : c = 123 ∨ c = 91) : VE zs i = V zs false false 0 i := by
  unfold VE; rw [if_neg (by omega), if_neg (by omega), if_pos (by omega)]
theorem VE_bare (zs : List Int) (i : Nat) (c : Int) (hk : i < zs.length) (hc : zs.getD i 0 = c) (h1 : c ≠ 34) (h : ¬ (c = 123 ∨ c = 91)) : VE zs i = S zs i := by
  unfold VE; rw [if_neg (by omega), if_neg (by omega), if_neg (by omega)]

/-! ### does it nest deeper than lim? -/
def nd (lim : Int) : Bool → Bool → Int → List Int → Bool
  | _, _, _, [] => false
  | true, true, d, _ :: t => nd lim true false d t
  | true, false, d, c :: t => if c == 92 then nd lim true true d t else if c == 34 then nd lim false false d t else nd lim true false d t
  | false, b, d, c :: t =>
    if c == 34 then nd lim true b d t
    else if c == 91 || c == 123 then (if lim < d + 1 then true else nd lim false b (d + 1) t)
    else if c == 93 || c == 125 then nd lim false b (d - 1) t
    else nd lim false b d t

def N (lim : Int) (zs : List Int) (a b : Bool) (d : Int) (k : Nat) : Bool := nd lim a b d (zs.drop k)

theorem N_end (lim : Int) (zs : List Int) (a b : Bool) (d : Int) (k : Nat) (h : zs.length ≤ k) : N lim zs a b d k = false := by
  unfold N
  rw [List.drop_eq_nil_of_le h]
  cases a <;> cases b <;> simp [nd]

section
variable (lim : Int) (zs : List Int) (d : Int) (k : Nat) (c : Int)
theorem N_tt (hk : k < zs.length) : N lim zs true true d k = N lim zs true false d (k + 1) := by
  unfold N; rw [drop_at zs k _ hk rfl, nd]
theorem N_bs (hk : k < zs.length) (hc : zs.getD k 0 = c) (h : c = 92) : N lim zs true false d k = N lim zs true true d (k + 1) := by
  unfold N; rw [drop_at zs k c hk hc, nd, if_pos (by simp [h])]
theorem N_q (hk : k < zs.length) (hc : zs.getD k 0 = c) (h : c = 34) : N lim zs true false d k = N lim zs false false d (k + 1) := by
  unfold N; rw [drop_at zs k c hk hc, nd, if_neg (by simp [h]), if_pos (by simp [h])]
theorem N_o (hk : k < zs.length) (hc : zs.getD k 0 = c) (h1 : c ≠ 92) (h2 : c ≠ 34) : N lim zs true false d k = N lim zs true false d (k + 1) := by
  unfold N; rw [drop_at zs k c hk hc, nd, if_neg (by simp [h1]), if_neg (by simp [h2])]
theorem N_in (hk : k < zs.length) (hc : zs.getD k 0 = c) (h : c = 34) : N lim zs false false d k = N lim zs true false d (k + 1) := by
  unfold N; rw [drop_at zs k c hk hc, nd, if_pos (by simp [h])]
theorem N_hit (hk : k < zs.length) (hc : zs.getD k 0 = c) (h : c = 91 ∨ c = 123) (hl : lim < d + 1) : N lim zs false false d k = true := by
  unfold N; rw [drop_at zs k c hk hc, nd, if_neg (by simp; omega), if_pos (by simpa using h), if_pos hl]
theorem N_up (hk : k < zs.length) (hc : zs.getD k 0 = c) (h : c = 91 ∨ c = 123) (hl : ¬ lim < d + 1) : N lim zs false false d k = N lim zs false false (d + 1) (k + 1) := by
  unfold N; rw [drop_at zs k c hk hc, nd, if_neg (by simp; omega), if_pos (by simpa using h), if_neg hl]
theorem N_down (hk : k < zs.length) (hc : zs.getD k 0 = c) (h : c = 93 ∨ c = 125) : N lim zs false false d k = N lim zs false false (d - 1) (k + 1) := by
  unfold N; rw [drop_at zs k c hk hc, nd, if_neg (by simp; omega), if_neg (by simp; omega), if_pos (by simpa using h)]
theorem N_skip (hk : k < zs.length) (hc : zs.getD k 0 = c) (h1 : c ≠ 34) (h2 : ¬ (c = 91 ∨ c = 123)) (h3 : ¬ (c = 93 ∨ c = 125)) : N lim zs false false d k = N lim zs false false d (k + 1) := by
  unfold N; rw [drop_at zs k c hk hc, nd, if_neg (by simpa using h1), if_neg (by simpa using h2), if_neg (by simpa using h3)]
end

theorem N_str (lim : Int) (zs : List Int) (d : Int) : ∀ (n k : Nat) (b : Bool), zs.length - k = n → k ≤ zs.length → N lim zs true b d k = N lim zs false false d (E zs b k) := by
  intro n
  induction n with
  | zero =>
    intro k b hn hk
    rw [E_end _ _ _ (by omega), N_end _ _ _ _ _ _ (by omega), N_end _ _ _ _ _ _ (by omega)]
  | succ n ih =>
    intro k b hn hk
    have hlt : k < zs.length := by omega
    cases b
    · by_cases h92 : zs.getD k 0 = 92
      · rw [N_bs lim zs d k _ hlt rfl h92, E_bs zs k _ hlt rfl h92]
        exact ih (k + 1) true (by omega) (by omega)
      · by_cases h34 : zs.getD k 0 = 34
        · rw [N_q lim zs d k _ hlt rfl h34, E_q zs k _ hlt rfl h34]
        · rw [N_o lim zs d k _ hlt rfl h92 h34, E_o zs k _ hlt rfl h92 h34]
          exact ih (k + 1) false (by omega) (by omega)
    · rw [N_tt lim zs d k hlt, E_esc]
      exact ih (k + 1) false (by omega) (by omega)
theorem N_jump (lim : Int) (zs : List Int) (d : Int) (k : Nat) (c : Int) (hk : k < zs.length) (hc : zs.getD k 0 = c) (h : c = 34) : N lim zs false false d k = N lim zs false false d (E zs false (k + 1)) := by
  rw [N_in lim zs d k c hk hc h]
  exact N_str lim zs d _ (k + 1) false rfl (by omega)

/-- the test that the law puts to the model's two answers: 'has && best > lim' -/
def top (lim : Int) (has : Bool) (best : Int) : Bool := has && decide (lim < best)

/-- ONE STEP OF THE MODEL's MAXIMUM: whoever was above the limit stays so, and the new depth counts. -/
theorem top_new (lim : Int) (best d : Int) : top lim true d = (top lim false best || decide (lim < d)) := by simp [top]
theorem top_more (lim : Int) (best d : Int) (h : best < d) : top lim true d = (top lim true best || decide (lim < d)) := by
  simp only [top, Bool.true_and]
  by_cases h1 : lim < best <;> by_cases h2 : lim < d <;> simp [h1, h2]
  omega
theorem top_less (lim : Int) (best d : Int) (h : ¬ best < d) : top lim true best = (top lim true best || decide (lim < d)) := by
  simp only [top, Bool.true_and]
  by_cases h1 : lim < best <;> by_cases h2 : lim < d <;> simp [h1, h2]
  omega

/-! ### the literal, and the brackets around it -/
def esc : List Int → List Int
  | [] => []
  | c :: t => if c == 34 || c == 92 then 92 :: c :: esc t else c :: esc t
def quoteL (zs : List Int) : List Int := 34 :: (esc zs ++ [34])
theorem esc_le (zs : List Int) : (esc zs).length ≤ 2 * zs.length := by
  induction zs with
  | nil => simp [esc]
  | cons c t ih => rw [esc]; split <;> simp only [List.length_cons] <;> omega
theorem esc_snoc (zs : List Int) (c : Int) : esc (zs ++ [c]) = esc zs ++ (if c == 34 || c == 92 then [92, c] else [c]) := by
  induction zs with
  | nil => simp only [List.nil_append, esc]
  | cons x t ih => simp only [List.cons_append, esc, ih]; split <;> simp
theorem seF_esc (zs t : List Int) : seF false (esc zs ++ 34 :: t) = (esc zs).length + 1 := by
  induction zs with
  | nil => simp [esc, seF]
  | cons c r ih =>
    rw [esc]
    by_cases h : (c == 34 || c == 92) = true
    · rw [if_pos h]; simp only [List.cons_append, seF]; simp [ih]; omega
    · rw [if_neg h]
      simp at h
      simp only [List.cons_append, seF]
      rw [if_neg (by simp [h.2]), if_neg (by simp [h.1]), ih]
      simp; omega
theorem ve_esc (zs t : List Int) (d : Int) : ve true false d (esc zs ++ 34 :: t) = (esc zs).length + 1 + ve false false d t := by
  induction zs with
  | nil => simp [esc, ve]
  | cons c r ih =>
    rw [esc]
    by_cases h : (c == 34 || c == 92) = true
    · rw [if_pos h]; simp only [List.cons_append, ve]; simp [ih]; omega
    · rw [if_neg h]
      simp at h
      simp only [List.cons_append, ve]
      rw [if_neg (by simp [h.2]), if_neg (by simp [h.1]), ih]
      simp; omega
theorem ve_quote (zs t : List Int) (d : Int) : ve false false d (quoteL zs ++ t) = (quoteL zs).length + ve false false d t := by
  unfold quoteL
  simp only [List.cons_append, List.append_assoc, List.nil_append, ve]
  rw [if_pos (by simp), ve_esc]
  simp; omega
theorem nd_esc (lim : Int) (zs t : List Int) (d : Int) : nd lim true false d (esc zs ++ 34 :: t) = nd lim false false d t := by
  induction zs with
  | nil => simp [esc, nd]
  | cons c r ih =>
    rw [esc]
    by_cases h : (c == 34 || c == 92) = true
    · rw [if_pos h]; simp only [List.cons_append, nd]; simp [ih]
    · rw [if_neg h]
      simp at h
      simp only [List.cons_append, nd]
      rw [if_neg (by simp [h.2]), if_neg (by simp [h.1]), ih]
theorem nd_quote (lim : Int) (zs t : List Int) (d : Int) : nd lim false false d (quoteL zs ++ t) = nd lim false false d t := by
  unfold quoteL
  simp only [List.cons_append, List.append_assoc, List.nil_append, nd]
  rw [if_pos (by simp), nd_esc]

/-- the opener and the closer of level k -/
def opn (k : Nat) : Int := if k % 2 = 0 then 91 else 123
def cls (k : Nat) : Int := if k % 2 = 0 then 93 else 125
/-- levels 0 .. n-1, outermost first -/
def opens (n : Nat) : List Int := (List.range n).map opn
/-- levels n-1 .. 0 -/
def closes : Nat → List Int
  | 0 => []
  | n + 1 => cls n :: closes n
def wrapL (n : Nat) (zs : List Int) : List Int := opens n ++ quoteL zs ++ closes n
theorem opens_succ (n : Nat) : opens (n + 1) = opens n ++ [opn n] := by simp [opens, List.range_succ]
theorem opens_len (n : Nat) : (opens n).length = n := by simp [opens]
theorem closes_len (n : Nat) : (closes n).length = n := by
  induction n with
  | zero => rfl
  | succ n ih => simp [closes, ih]
theorem opn_two (k : Nat) : opn k = 91 ∨ opn k = 123 := by unfold opn; split <;> simp
theorem cls_two (k : Nat) : cls k = 93 ∨ cls k = 125 := by unfold cls; split <;> simp

theorem ve_opens (l t : List Int) (hl : ∀ c ∈ l, c = 91 ∨ c = 123) : ∀ d : Int, ve false false d (l ++ t) = l.length + ve false false (d + l.length) t := by
  induction l with
  | nil => intro d; simp
  | cons c r ih =>
    intro d
    have hc := hl c (by simp)
    rw [List.cons_append, ve, if_neg (by simp; omega), if_pos (by simp; omega), ih (fun x hx => hl x (by simp [hx]))]
    have e : d + 1 + (r.length : Int) = d + ((c :: r).length : Int) := by simp; omega
    rw [e]; simp; omega
theorem nd_opens (lim : Int) (l t : List Int) (hl : ∀ c ∈ l, c = 91 ∨ c = 123) : ∀ d : Int, nd lim false false d (l ++ t) = ((decide (1 ≤ l.length) && decide (lim < d + l.length)) || nd lim false false (d + l.length) t) := by
  induction l with
  | nil => intro d; simp
  | cons c r ih =>
    intro d
    have hc := hl c (by simp)
    rw [List.cons_append, nd, if_neg (by simp; omega), if_pos (by simp; omega)]
    have e : d + 1 + (r.length : Int) = d + ((c :: r).length : Int) := by simp; omega
    by_cases h : lim < d + 1
    · rw [if_pos h]
      have h2 : lim < d + ((c :: r).length : Int) := by simp; omega
      simp only [h2]; simp
    · rw [if_neg h, ih (fun x hx => hl x (by simp [hx])), e]
      by_cases h2 : lim < d + ((c :: r).length : Int)
      · have h3 : 1 ≤ r.length := by simp at h2; omega
        simp only [h2, h3]; simp
      · simp only [h2]; simp
theorem ve_closes (t : List Int) : ∀ n : Nat, 1 ≤ n → ve false false (n : Int) (closes n ++ t) = n := by
  intro n
  induction n with
  | zero => intro h; omega
  | succ n ih =>
    intro _
    have hc := cls_two n
    rw [closes, List.cons_append, ve, if_neg (by simp; omega), if_neg (by simp; omega), if_pos (by simp; omega)]
    by_cases h : n = 0
    · subst h; simp
    · rw [if_neg (by omega)]
      have e : ((n + 1 : Nat) : Int) - 1 = (n : Int) := by omega
      rw [e, ih (by omega)]; omega
theorem nd_closes (lim : Int) : ∀ (n : Nat) (d : Int), nd lim false false d (closes n) = false := by
  intro n
  induction n with
  | zero => intro d; simp [closes, nd]
  | succ n ih =>
    intro d
    have hc := cls_two n
    rw [closes, nd, if_neg (by simp; omega), if_neg (by simp; omega), if_pos (by simp; omega)]
    exact ih _

theorem opens_mem (n : Nat) : ∀ c ∈ opens n, c = 91 ∨ c = 123 := by
  intro c hc
  obtain ⟨k, _, rfl⟩ := List.mem_map.1 hc
  exact opn_two k

/-! ### what the laws ask -/
theorem quote_len (zs : List Int) : (quoteL zs).length = (esc zs).length + 2 := by simp [quoteL]
theorem wrap_len (n : Nat) (zs : List Int) : (wrapL n zs).length = n + (quoteL zs).length + n := by simp only [wrapL, List.length_append, opens_len, closes_len]

/-- THE LITERAL ENDS AT ITS OWN END, wherever it begins. -/
theorem E_literal (p zs t : List Int) : E (p ++ (quoteL zs ++ t)) false (p.length + 1) = p.length + (quoteL zs).length := by
  unfold E
  have hd : (p ++ (quoteL zs ++ t)).drop (p.length + 1) = esc zs ++ 34 :: t := by
    rw [List.drop_append]; simp [quoteL]
  rw [hd, seF_esc]
  simp [quoteL]; omega
theorem lit_head (p zs t : List Int) : (p ++ (quoteL zs ++ t)).getD p.length 0 = 34 := by simp [quoteL, List.getD]

theorem law2 (zs t : List Int) : E (quoteL zs ++ t) false 1 = (quoteL zs).length := by
  have := E_literal [] zs t
  simpa using this

theorem law4a (n : Nat) (zs t : List Int) : VE (wrapL n zs ++ t) 0 = (wrapL n zs).length := by
  have hlen := wrap_len n zs
  have hq := quote_len zs
  have hpos : 0 < (wrapL n zs ++ t).length := by simp; omega
  by_cases h : n = 0
  · subst h
    have e : wrapL 0 zs ++ t = [] ++ (quoteL zs ++ t) := by simp [wrapL, opens, closes]
    rw [VE_str _ 0 34 hpos (by rw [e]; exact lit_head [] zs t) rfl, hlen, e]
    have := E_literal [] zs t
    simp at this ⊢; omega
  · have hn : 0 < (opens n).length := by rw [opens_len]; omega
    have h0 : (wrapL n zs ++ t).getD 0 0 = 91 := by
      have e : opens n = 91 :: (opens n).drop 1 := by
        have := List.drop_eq_getElem_cons hn
        simp only [List.drop_zero] at this
        rw [this]
        simp [opens, opn]
      rw [wrapL, e]; simp
    rw [VE_br _ 0 91 hpos h0 (by simp), V, hlen]
    have e : (wrapL n zs ++ t).drop 0 = opens n ++ (quoteL zs ++ (closes n ++ t)) := by simp [wrapL]
    rw [e, ve_opens _ _ (opens_mem n), ve_quote, opens_len]
    have e2 : (0 : Int) + (n : Int) = (n : Int) := by omega
    rw [e2, ve_closes _ n (by omega)]
    omega
theorem law4b (n : Nat) (zs t : List Int) : VE (wrapL n zs ++ t) n = n + (quoteL zs).length := by
  have e : wrapL n zs ++ t = opens n ++ (quoteL zs ++ (closes n ++ t)) := by simp [wrapL]
  have hq := quote_len zs
  have hl : n < (wrapL n zs ++ t).length := by have := wrap_len n zs; simp; omega
  have hh := lit_head (opens n) zs (closes n ++ t)
  have hE := E_literal (opens n) zs (closes n ++ t)
  rw [opens_len] at hh hE
  rw [VE_str _ n 34 hl (by rw [e]; exact hh) rfl, e]
  exact hE
theorem law6 (lim : Int) (n : Nat) (zs : List Int) : N lim (wrapL n zs) false false 0 0 = (decide (1 ≤ n) && decide (lim < (n : Int))) := by
  unfold N
  have e : (wrapL n zs).drop 0 = opens n ++ (quoteL zs ++ closes n) := by simp [wrapL]
  rw [e, nd_opens _ _ _ (opens_mem n), nd_quote, nd_closes, opens_len]
  simp

end Go.Proofs.Qxb6605558a.Plain
