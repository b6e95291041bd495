import Derived.Test.Qxb6605558aBase
namespace Go.Proofs.Qxb6605558a
open Go.RowKit
open Plain

/-- the cell of a literal of one element, just laid -/
theorem one_cell (w : World) (e : TypeId) (c : Int) : ∀ j u, [Value.int .u8 c][j]? = some u → (w.alloc (.cells #[.int .u8 c] e)).cell? ((⟨w.heap.size, 0, none⟩ : Addr).add j) = some u := by
  intro j u hj
  match j, hj with
  | 0, hj => simp at hj; subst hj; simp [Addr.add]
theorem one_one (c : Int) : ∀ u ∈ [Value.int .u8 c], u.oneCell' = true := by
  intro u hu; simp at hu; subst hu; rfl

theorem take_snoc (zs : List Int) (k : Nat) (c : Int) (hk : k < zs.length) (hc : zs.getD k 0 = c) : zs.take (k + 1) = zs.take k ++ [c] := by
  rw [List.take_add_one, List.getElem?_eq_getElem hk]
  simp [List.getD, hk] at hc
  rw [hc]; rfl

set_option maxHeartbeats 1000000 in
theorem quote_any (a : Option Addr) (len cap : Nat) (zs : List Int) (w : World) (hl : zs.length = len) (hm : len ≤ 1048576) (hr : Rd w a zs) :
    Calls Try.prog 14 #[.slice a len cap] w fun e w' => ∃ (g n cap' : Nat), e = .returned (.slice (some ⟨g, 0, none⟩) n cap') ∧ n = (quoteL zs).length ∧ Rd w' (some ⟨g, 0, none⟩) (quoteL zs) ∧ Below w.heap.size w w' := by
  obtain ⟨i0, hi, hz0, hz1, hz2⟩ := info_parts Try.info5
  have HR : Hid (Rd w a zs) := hr
  clear hr
  go_enter Try.func14, Try.ntmps14
  go_wp2_with (at_make; refine wpList_make_own _ rfl _ _ 22 rfl w.heap.size 5 i0 (.int .u8 0) 1 Try.underlying22 hi hz0 hz1 _ _ _ (2 * len + 2) rfl rfl (by omega) ?b2 ?b3 (Nat.le_refl _) ?_)
  case b2 => rw [hz2]; omega
  case b3 => unfold maxLen; omega
  intro w0 hown0 hgrow0
  have hB0 : Below w.heap.size w w0 := (Below.refl _ _).grown hgrow0 (Nat.le_refl _) (fun k h => by cases h)
  go_wp2_with (at_builtin; refine wpList_append_fits _ rfl _ _ 22 rfl w.heap.size 5 i0 1 Try.underlying22 hi hz1 w.heap.size 0 (2 * len + 2) _ rfl (hown0.alloc _) ⟨w0.heap.size, 0, none⟩ 1 1 [.int .u8 34] rfl rfl (one_cell _ _ _) (one_one _) (by omega) ?_)
  intro w1 hown1 hgrow1
  have hB1 : Below w.heap.size w w1 := (hB0.alloc hB0.size _).grown hgrow1 (by simp; have := hB0.size; omega) (fun k h => by cases h; exact Nat.le_refl _)
  clear hB0 hgrow0 hgrow1 hown0
  go_wp2
  go_loopw [3, 4] (fun v i wr => ∃ k n : Nat, k ≤ len ∧ n ≤ 2 * k + 1 ∧ i = .int .i64 k ∧ v = .slice (some ⟨w.heap.size, 0, none⟩) n (2 * len + 2) ∧ Hid (n = 1 + (esc (zs.take k)).length) ∧
      Hid (wr.ownsRow w.heap.size 5 1 (.slice (some ⟨w.heap.size, 0, none⟩) n (2 * len + 2)) n ((34 :: esc (zs.take k)).map (Value.int .u8))) ∧ Below w.heap.size w wr) (fun _ i _ => len - (intOf i).toNat)
  case atStart => exact ⟨0, 1, by omega, by omega, rfl, rfl, by show _ = _; simp [esc], by show World.ownsRow _ _ _ _ _ _ _; simpa [esc] using hown1, hB1⟩
  case round =>
    obtain ⟨k, n, hk, hn, rfl, rfl, HN, HO, hnx⟩ := hrel
    by_cases hlt : k < len
    · obtain ⟨b, o, rfl, hcell0⟩ := HR.out.at (k := k) (by omega)
      obtain ⟨c, hc⟩ : ∃ c, zs.getD k 0 = c := ⟨_, rfl⟩
      rw [hc] at hcell0
      have hcell : wr.cell? ⟨b, o + k, none⟩ = some (.int .u8 c) := (hnx.cell (p := ⟨b, o + k, none⟩) (World.block_lt_of_cell? w _ hcell0)).trans hcell0
      have HT : Hid (zs.take (k + 1) = zs.take k ++ [c]) := take_snoc zs k c (by omega) hc
      clear hc hcell0
      by_cases hq : c = 34 ∨ c = 92
      · have HE : Hid (esc (zs.take (k + 1)) = esc (zs.take k) ++ [92, c]) := by
          show _ = _
          rw [HT.out, esc_snoc, if_pos (by simp; exact hq)]
        have HL : Hid ((esc (zs.take (k + 1))).length = (esc (zs.take k)).length + 2) := by show _ = _; rw [HE.out]; simp
        have hbb : (c == 34) = true ∨ ((c == 34) = false ∧ (c == 92) = true) := by
          by_cases h : c = 34
          · left; simp [h]
          · right; simp [h]; omega
        clear hq
        rcases hbb with b34 | ⟨b34, b92⟩
        all_goals
          go_wp2_with (first
            | (at_builtin; refine wpList_append_fits _ rfl (.tmp 30) (.tmp 31) 22 rfl w.heap.size 5 i0 1 Try.underlying22 hi hz1 w.heap.size n (2 * len + 2) _ rfl (HO.out.alloc _) ⟨wr.heap.size, 0, none⟩ 1 1 [.int .u8 92] rfl rfl (one_cell _ _ _) (one_one _) (by omega) ?_; intro w2 hown2 hgrow2)
            | (at_builtin; refine wpList_append_fits _ rfl (.tmp 33) (.tmp 35) 22 rfl w.heap.size 5 i0 1 Try.underlying22 hi hz1 w.heap.size (n + 1) (2 * len + 2) _ rfl (hown2.alloc _) ⟨w2.heap.size, 0, none⟩ 1 1 [.int .u8 c] rfl rfl (one_cell _ _ _) (one_one _) (by omega) ?_; intro w3 hown3 hgrow3))
          have hB2 : Below w.heap.size w w2 := (hnx.alloc hnx.size _).grown hgrow2 (by simp; have := hnx.size; omega) (fun k h => by cases h; exact Nat.le_refl _)
          have hB3 : Below w.heap.size w w3 := (hB2.alloc hB2.size _).grown hgrow3 (by simp; have := hB2.size; omega) (fun k h => by cases h; exact Nat.le_refl _)
          have H3 : Hid (w3.ownsRow w.heap.size 5 1 (.slice (some ⟨w.heap.size, 0, none⟩) (n + 1 + 1) (2 * len + 2)) (n + 1 + 1) ((34 :: esc (zs.take (k + 1))).map (Value.int .u8))) := by
            have e : (34 :: esc (zs.take (k + 1))).map (Value.int .u8) = (34 :: esc (zs.take k)).map (Value.int .u8) ++ [.int .u8 92] ++ [.int .u8 c] := by rw [HE.out]; simp
            rw [e]; exact hown3
          clear hown2 hgrow2 hown3 hgrow3 HO
          go_roundw
          case rel => exact ⟨k + 1, n + 1 + 1, by omega, by omega, by go_num, rfl, by show _ = _; have := HN.out; have := HL.out; omega, H3, hB3⟩
          case measure => simp [intOf]; omega
      · have HE : Hid (esc (zs.take (k + 1)) = esc (zs.take k) ++ [c]) := by
          show _ = _
          rw [HT.out, esc_snoc, if_neg (by simp; omega)]
        have HL : Hid ((esc (zs.take (k + 1))).length = (esc (zs.take k)).length + 1) := by show _ = _; rw [HE.out]; simp
        have b34 : (c == 34) = false := by simp; omega
        have b92 : (c == 92) = false := by simp; omega
        clear hq
        go_wp2_with (at_builtin; refine wpList_append_fits _ rfl (.tmp 33) (.tmp 35) 22 rfl w.heap.size 5 i0 1 Try.underlying22 hi hz1 w.heap.size n (2 * len + 2) _ rfl (HO.out.alloc _) ⟨wr.heap.size, 0, none⟩ 1 1 [.int .u8 c] rfl rfl (one_cell _ _ _) (one_one _) (by omega) ?_; intro w2 hown2 hgrow2)
        have hB2 : Below w.heap.size w w2 := (hnx.alloc hnx.size _).grown hgrow2 (by simp; have := hnx.size; omega) (fun k h => by cases h; exact Nat.le_refl _)
        have H3 : Hid (w2.ownsRow w.heap.size 5 1 (.slice (some ⟨w.heap.size, 0, none⟩) (n + 1) (2 * len + 2)) (n + 1) ((34 :: esc (zs.take (k + 1))).map (Value.int .u8))) := by
          have e : (34 :: esc (zs.take (k + 1))).map (Value.int .u8) = (34 :: esc (zs.take k)).map (Value.int .u8) ++ [.int .u8 c] := by rw [HE.out]; simp
          rw [e]; exact hown2
        clear hown2 hgrow2 HO
        go_roundw
        case rel => exact ⟨k + 1, n + 1, by omega, by omega, by go_num, rfl, by show _ = _; have := HN.out; have := HL.out; omega, H3, hB2⟩
        case measure => simp [intOf]; omega
    · have HT : Hid (zs.take k = zs) := List.take_of_length_le (by omega)
      go_wp2_with (at_builtin; refine wpList_append_fits _ rfl (.tmp 37) (.tmp 38) 22 rfl w.heap.size 5 i0 1 Try.underlying22 hi hz1 w.heap.size n (2 * len + 2) _ rfl (HO.out.alloc _) ⟨wr.heap.size, 0, none⟩ 1 1 [.int .u8 34] rfl rfl (one_cell _ _ _) (one_one _) (by omega) ?_; intro w2 hown2 hgrow2)
      have hB2 : Below w.heap.size w w2 := (hnx.alloc hnx.size _).grown hgrow2 (by simp; have := hnx.size; omega) (fun k h => by cases h; exact Nat.le_refl _)
      have e1 : (34 :: esc (zs.take k)).map (Value.int .u8) ++ [.int .u8 34] = (quoteL zs).map (Value.int .u8) := by rw [HT.out]; simp [quoteL]
      have e2 : (quoteL zs).length = n + 1 := by rw [quote_len, HN.out, HT.out]; omega
      rw [e1] at hown2
      go_ret
      exact ⟨_, _, _, rfl, e2.symm, Rd.owned e2 hown2, hB2⟩
end Go.Proofs.Qxb6605558a
