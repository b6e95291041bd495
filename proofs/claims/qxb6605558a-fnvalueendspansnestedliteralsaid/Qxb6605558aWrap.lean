import Derived.Test.Qxb6605558aJoin
namespace Go.Proofs.Qxb6605558a
open Go.RowKit
open Plain

theorem opens_even (k : Nat) (h : ((k : Int) % 2 == 0) = true) : opens (k + 1) = opens k ++ [91] := by
  simp at h
  rw [opens_succ, opn, if_pos (by omega)]
theorem opens_odd (k : Nat) (h : ((k : Int) % 2 == 0) = false) : opens (k + 1) = opens k ++ [123] := by
  simp at h
  rw [opens_succ, opn, if_neg (by omega)]
theorem closes_even (k : Nat) (h : ((k : Int) % 2 == 0) = true) : closes (k + 1) = 93 :: closes k := by
  simp at h
  rw [closes, cls, if_pos (by omega)]
theorem closes_odd (k : Nat) (h : ((k : Int) % 2 == 0) = false) : closes (k + 1) = 125 :: closes k := by
  simp at h
  rw [closes, cls, if_neg (by omega)]

set_option maxHeartbeats 1000000 in
theorem wrap_any (n : Nat) (a : Option Addr) (len cap : Nat) (zs : List Int) (w : World) (hn : n ≤ 65536) (hl : zs.length = len) (hm : len ≤ 65536) (hr : Rd w a zs) :
    Calls Try.prog 19 #[.int .i64 n, .slice a len cap] w fun e w' => ∃ (g m cap' q : Nat), e = .returned (.tuple #[.slice (some ⟨g, 0, none⟩) m cap', .int .i64 q]) ∧ m = (wrapL n zs).length ∧ q = (quoteL zs).length ∧ Rd w' (some ⟨g, 0, none⟩) (wrapL n zs) ∧ Below w.heap.size w w' := by
  obtain ⟨i0, hi, hz0, hz1, hz2⟩ := info_parts Try.info5
  have HR : Hid (Rd w a zs) := hr
  clear hr
  go_enter Try.func19, Try.ntmps19
  go_wp2_with fail
  refine (quote_any a len cap zs _ hl (by omega) HR.out).mono ?_
  rintro e w3 ⟨g, q, d3, rfl, hq, hr3, hb3⟩
  have HL : Hid ((quoteL zs).length = q) := hq.symm
  have HT3 : Hid (Rd w3 (some ⟨g, 0, none⟩) (quoteL zs)) := hr3
  have hqb : q ≤ 131074 := by
    have h1 := esc_le zs
    have h2 := quote_len zs
    omega
  clear hr3 hq
  go_wp2_with (at_make; refine wpList_make_own _ rfl _ _ 22 rfl w3.heap.size 5 i0 (.int .u8 0) 1 Try.underlying22 hi hz0 hz1 _ _ _ (2 * n + q) rfl rfl (by omega) ?b2 ?b3 (Nat.le_refl _) ?_)
  case b2 => rw [hz2]; omega
  case b3 => unfold maxLen; omega
  intro w4 hown4 hgrow4
  have hb34 : Below w3.heap.size w3 w4 := (Below.refl _ _).grown hgrow4 (Nat.le_refl _) (fun k h => by cases h)
  clear hgrow4
  go_wp2
  go_loopw [7, 8] (fun v i wr => ∃ k : Nat, k ≤ n ∧ i = .int .i64 k ∧ v = .slice (some ⟨w3.heap.size, 0, none⟩) k (2 * n + q) ∧
      Hid (wr.ownsRow w3.heap.size 5 1 (.slice (some ⟨w3.heap.size, 0, none⟩) k (2 * n + q)) k ((opens k).map (Value.int .u8))) ∧ Below w3.heap.size w3 wr) (fun _ i _ => n - (intOf i).toNat)
  case atStart => exact ⟨0, by omega, rfl, rfl, hown4, hb34⟩
  case round =>
    obtain ⟨k, hk, rfl, rfl, HO, hnx⟩ := hrel
    by_cases hlt : k < n
    · cases hpar : ((k : Int) % 2 == 0) with
      | true =>
        have HE : Hid (opens (k + 1) = opens k ++ [91]) := opens_even k hpar
        go_wp2_with (at_builtin; refine wpList_append_fits _ rfl (.tmp 26) (.tmp 27) 22 rfl w3.heap.size 5 i0 1 Try.underlying22 hi hz1 w3.heap.size k (2 * n + q) _ rfl (HO.out.alloc _) ⟨wr.heap.size, 0, none⟩ 1 1 [.int .u8 91] rfl rfl (one_cell _ _ _) (one_one _) (by omega) ?_; intro w5 hown5 hgrow5)
        have hB5 : Below w3.heap.size w3 w5 := (hnx.alloc hnx.size _).grown hgrow5 (by simp; have := hnx.size; omega) (fun k h => by cases h; exact Nat.le_refl _)
        have H5 : Hid (w5.ownsRow w3.heap.size 5 1 (.slice (some ⟨w3.heap.size, 0, none⟩) (k + 1) (2 * n + q)) (k + 1) ((opens (k + 1)).map (Value.int .u8))) := by
          rw [HE.out, List.map_append]; exact hown5
        clear hown5 hgrow5 HO
        go_roundw
        case rel => exact ⟨k + 1, by omega, by go_num, rfl, H5, hB5⟩
        case measure => simp [intOf]; omega
      | false =>
        have HE : Hid (opens (k + 1) = opens k ++ [123]) := opens_odd k hpar
        go_wp2_with (at_builtin; refine wpList_append_fits _ rfl (.tmp 29) (.tmp 30) 22 rfl w3.heap.size 5 i0 1 Try.underlying22 hi hz1 w3.heap.size k (2 * n + q) _ rfl (HO.out.alloc _) ⟨wr.heap.size, 0, none⟩ 1 1 [.int .u8 123] rfl rfl (one_cell _ _ _) (one_one _) (by omega) ?_; intro w5 hown5 hgrow5)
        have hB5 : Below w3.heap.size w3 w5 := (hnx.alloc hnx.size _).grown hgrow5 (by simp; have := hnx.size; omega) (fun k h => by cases h; exact Nat.le_refl _)
        have H5 : Hid (w5.ownsRow w3.heap.size 5 1 (.slice (some ⟨w3.heap.size, 0, none⟩) (k + 1) (2 * n + q)) (k + 1) ((opens (k + 1)).map (Value.int .u8))) := by
          rw [HE.out, List.map_append]; exact hown5
        clear hown5 hgrow5 HO
        go_roundw
        case rel => exact ⟨k + 1, by omega, by go_num, rfl, H5, hB5⟩
        case measure => simp [intOf]; omega
    · obtain rfl : k = n := by omega
      have HV3 : Hid (Rd wr (some ⟨g, 0, none⟩) (quoteL zs)) := HT3.out.later hnx
      go_wp2_with (at_builtin; refine wpList_append_fits_any _ rfl (.tmp 32) (.tmp 33) 22 rfl w3.heap.size 5 i0 1 Try.underlying22 hi hz1 w3.heap.size k (2 * k + q) _ rfl HO.out _ q _ ((quoteL zs).map (Value.int .u8)) rfl (by rw [List.length_map, HL.out]; omega) (by intro h; cases h) HV3.out.src (ints_oneCell _ _) (by omega) ?_; intro w5 hown5 hgrow5)
      have hB5 : Below w3.heap.size w3 w5 := hnx.grown hgrow5 hnx.size (fun k h => by cases h; exact Nat.le_refl _)
      have H5 : Hid (w5.ownsRow w3.heap.size 5 1 (.slice (some ⟨w3.heap.size, 0, none⟩) (k + q) (2 * k + q)) (k + q) ((opens k ++ quoteL zs ++ []).map (Value.int .u8))) := by
        rw [List.append_nil, List.map_append]; exact hown5
      clear hown5 hgrow5 HO hnx hlt
      go_loopw [7, 9] (fun v i wr => ∃ (t : Int) (m : Nat) (part : List Int), -1 ≤ t ∧ t < k ∧ (m : Int) + t + 1 ≤ 2 * k + q ∧ (2 * k + q : Int) ≤ m + t + 1 ∧ i = .int .i64 t ∧ v = .slice (some ⟨w3.heap.size, 0, none⟩) m (2 * k + q) ∧ Hid (part ++ closes (t + 1).toNat = closes k) ∧
          Hid (wr.ownsRow w3.heap.size 5 1 (.slice (some ⟨w3.heap.size, 0, none⟩) m (2 * k + q)) m ((opens k ++ quoteL zs ++ part).map (Value.int .u8))) ∧ Below w3.heap.size w3 wr) (fun _ i _ => (intOf i + 1).toNat)
      case atStart => exact ⟨(k : Int) - 1, k + q, [], by omega, by omega, by omega, by omega, rfl, rfl, by show _ = _; rw [show ((k : Int) - 1 + 1).toNat = k from by omega]; rfl, H5, hB5⟩
      case round =>
        obtain ⟨t, m, part, ht1, ht2, hm1, hm2, rfl, rfl, HP, HO, hnx⟩ := hrel
        by_cases hge : 0 ≤ t
        · obtain ⟨s, rfl⟩ : ∃ s : Nat, t = (s : Int) := ⟨t.toNat, by omega⟩
          have HP' : Hid (part ++ closes (s + 1) = closes k) := by
            have h := HP.out
            rwa [show ((s : Int) + 1).toNat = s + 1 from by omega] at h
          clear HP
          cases hpar : ((s : Int) % 2 == 0) with
          | true =>
            have HE : Hid ((part ++ [93]) ++ closes ((s : Int) - 1 + 1).toNat = closes k) := by
              show _ = _
              rw [← HP'.out, closes_even s hpar, show ((s : Int) - 1 + 1).toNat = s from by omega]; simp
            go_wp2_with (at_builtin; refine wpList_append_fits _ rfl (.tmp 44) (.tmp 45) 22 rfl w3.heap.size 5 i0 1 Try.underlying22 hi hz1 w3.heap.size m (2 * k + q) _ rfl (HO.out.alloc _) ⟨wr.heap.size, 0, none⟩ 1 1 [.int .u8 93] rfl rfl (one_cell _ _ _) (one_one _) (by omega) ?_; intro w6 hown6 hgrow6)
            have hB6 : Below w3.heap.size w3 w6 := (hnx.alloc hnx.size _).grown hgrow6 (by simp; have := hnx.size; omega) (fun k h => by cases h; exact Nat.le_refl _)
            have H6 : Hid (w6.ownsRow w3.heap.size 5 1 (.slice (some ⟨w3.heap.size, 0, none⟩) (m + 1) (2 * k + q)) (m + 1) ((opens k ++ quoteL zs ++ (part ++ [93])).map (Value.int .u8))) := by
              rw [← List.append_assoc, List.map_append]; exact hown6
            clear hown6 hgrow6 HO
            go_roundw
            case rel => exact ⟨(s : Int) - 1, m + 1, part ++ [93], by omega, by omega, by omega, by omega, by go_num, rfl, HE, H6, hB6⟩
            case measure => simp [intOf]
          | false =>
            have HE : Hid ((part ++ [125]) ++ closes ((s : Int) - 1 + 1).toNat = closes k) := by
              show _ = _
              rw [← HP'.out, closes_odd s hpar, show ((s : Int) - 1 + 1).toNat = s from by omega]; simp
            go_wp2_with (at_builtin; refine wpList_append_fits _ rfl (.tmp 47) (.tmp 48) 22 rfl w3.heap.size 5 i0 1 Try.underlying22 hi hz1 w3.heap.size m (2 * k + q) _ rfl (HO.out.alloc _) ⟨wr.heap.size, 0, none⟩ 1 1 [.int .u8 125] rfl rfl (one_cell _ _ _) (one_one _) (by omega) ?_; intro w6 hown6 hgrow6)
            have hB6 : Below w3.heap.size w3 w6 := (hnx.alloc hnx.size _).grown hgrow6 (by simp; have := hnx.size; omega) (fun k h => by cases h; exact Nat.le_refl _)
            have H6 : Hid (w6.ownsRow w3.heap.size 5 1 (.slice (some ⟨w3.heap.size, 0, none⟩) (m + 1) (2 * k + q)) (m + 1) ((opens k ++ quoteL zs ++ (part ++ [125])).map (Value.int .u8))) := by
              rw [← List.append_assoc, List.map_append]; exact hown6
            clear hown6 hgrow6 HO
            go_roundw
            case rel => exact ⟨(s : Int) - 1, m + 1, part ++ [125], by omega, by omega, by omega, by omega, by go_num, rfl, HE, H6, hB6⟩
            case measure => simp [intOf]
        · obtain rfl : t = -1 := by omega
          have e1 : part = closes k := by
            have h := HP.out
            simpa [closes] using h
          have hlen : (wrapL k zs).length = m := by rw [wrap_len, HL.out]; omega
          have hrd : Rd wr (some ⟨w3.heap.size, 0, none⟩) (wrapL k zs) := Rd.owned hlen (by have h := HO.out; rw [e1] at h; exact h)
          have hend : Below w.heap.size w wr := hb3.trans (hnx.mono hb3.size)
          have HM : Hid (m = (wrapL k zs).length) := hlen.symm
          clear e1 HP HO hlen
          go_wp2
          go_ret2
          exact ⟨_, _, _, _, rfl, HM, HL.out.symm, hrd, hend⟩
end Go.Proofs.Qxb6605558a
