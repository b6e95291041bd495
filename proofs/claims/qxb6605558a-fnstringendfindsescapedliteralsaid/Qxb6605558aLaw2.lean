import Derived.Test.Qxb6605558aJoin
namespace Go.Proofs.Qxb6605558a
open Go.RowKit
open Plain

set_option maxHeartbeats 1000000 in
theorem law2_walk (a0 : Option Addr) (len0 cap0 : Nat) (ys0 : List Int) (a1 : Option Addr) (len1 cap1 : Nat) (ys1 : List Int) (w : World) (hr0 : Rd w a0 ys0) (hy0 : ys0.length = len0) (hr1 : Rd w a1 ys1) (hy1 : ys1.length = len1) :
    Calls Try.prog 4 #[.slice a0 len0 cap0, .slice a1 len1 cap1] w fun e w' => e = .returned (.bool true) ∧ Below w.heap.size w w' := by
  obtain ⟨i0, hi, hz0, hz1, hz2⟩ := info_parts Try.info5
  have HR0 : Hid (Rd w a0 ys0) := hr0
  have HR1 : Hid (Rd w a1 ys1) := hr1
  clear hr0 hr1
  by_cases hle : len0 + len1 ≤ 1048576
  · by_cases hc0 : 65536 < len0
    · go_enter Try.func4, Try.ntmps4
      go_wp2_with (go_at_call 13; refine (zb13_yes _ _ _ _ _ _ _ hle).mono ?_; rintro e w ⟨rfl, rfl⟩)
      go_ret
      exact ⟨rfl, Below.refl _ _⟩
    · by_cases hc1 : 65536 < len1
      · go_enter Try.func4, Try.ntmps4
        go_wp2_with (go_at_call 13; refine (zb13_yes _ _ _ _ _ _ _ hle).mono ?_; rintro e w ⟨rfl, rfl⟩)
        go_ret
        exact ⟨rfl, Below.refl _ _⟩
      · go_enter Try.func4, Try.ntmps4
        go_wp2_with (go_at_call 13; refine (zb13_yes _ _ _ _ _ _ _ hle).mono ?_; rintro e w ⟨rfl, rfl⟩)
        refine (clone_any a0 len0 cap0 ys0 _ hy0 (by omega) HR0.out).mono ?_
        rintro e w1 ⟨b0, d0, rfl, hr0, _, hb1⟩
        have HS0 : Hid (Rd w1 b0 ys0) := hr0
        have HS1 : Hid (Rd w1 a1 ys1) := HR1.out.later hb1
        clear hr0
        go_wp2_with fail
        refine (clone_any a1 len1 cap1 ys1 _ hy1 (by omega) HS1.out).mono ?_
        rintro e w2 ⟨b1, d1, rfl, hr1, hn1, hb2⟩
        have HU0 : Hid (Rd w2 b0 ys0) := HS0.out.later hb2
        have HU1 : Hid (Rd w2 b1 ys1) := hr1
        have HN1 : Hid (b1 = none → len1 = 0 ∧ d1 = 0) := hn1
        have HB2 : Below w.heap.size w w2 := hb1.trans (hb2.mono hb1.size)
        clear hr1 hn1 hb1 hb2 HS0 HS1 HR0 HR1
        go_wp2_with fail
        refine (quote_any b0 len0 d0 ys0 _ hy0 (by omega) HU0.out).mono ?_
        rintro e w3 ⟨g, n, d3, rfl, hn, hr3, hb3⟩
        have HL : Hid ((quoteL ys0).length = n) := hn.symm
        have HT3 : Hid (Rd w3 (some ⟨g, 0, none⟩) (quoteL ys0)) := hr3
        have HT1 : Hid (Rd w3 b1 ys1) := HU1.out.later hb3
        have hB3 : Below w.heap.size w w3 := HB2.trans (hb3.mono HB2.size)
        have hnb : n ≤ 131074 := by
          have h1 := esc_le ys0
          have h2 := quote_len ys0
          omega
        clear hr3 hb3 HB2 HU0 HU1 hn
        go_wp2_with (at_make; refine wpList_make_own _ rfl _ _ 22 rfl w3.heap.size 5 i0 (.int .u8 0) 1 Try.underlying22 hi hz0 hz1 _ _ _ (n + len1) rfl rfl (by omega) ?b2 ?b3 (Nat.le_refl _) ?_)
        case b2 => rw [hz2]; omega
        case b3 => unfold maxLen; omega
        intro w4 hown4 hgrow4
        have hb34 : Below w3.heap.size w3 w4 := (Below.refl _ _).grown hgrow4 (Nat.le_refl _) (fun k h => by cases h)
        have HV3 : Hid (Rd w4 (some ⟨g, 0, none⟩) (quoteL ys0)) := HT3.out.later hb34
        have HV1 : Hid (Rd w4 b1 ys1) := HT1.out.later hb34
        have hv5 : ∀ w5 : World, w4.grownBy w5 (some w3.heap.size) → Rd w5 b1 ys1 := fun w5 hg => HT1.out.later (hb34.grown hg hb34.size (fun k h => by cases h; exact Nat.le_refl _))
        clear hgrow4
        go_wp2_with (first
          | (at_builtin; refine wpList_append_fits_any _ rfl (.tmp 31) (.tmp 32) 22 rfl w3.heap.size 5 i0 1 Try.underlying22 hi hz1 w3.heap.size 0 (n + len1) _ rfl hown4 _ n _ ((quoteL ys0).map (Value.int .u8)) rfl (by rw [List.length_map, HL.out]; omega) (by intro h; cases h) HV3.out.src (ints_oneCell _ _) (by omega) ?_; intro w5 hown5 hgrow5; simp only [Nat.zero_add, List.nil_append] at hown5; have HX1 : Hid (Rd w5 b1 ys1) := hv5 w5 hgrow5)
          | (at_builtin; refine wpList_append_fits_any _ rfl (.tmp 34) (.tmp 35) 22 rfl w3.heap.size 5 i0 1 Try.underlying22 hi hz1 w3.heap.size n (n + len1) _ rfl hown5 _ len1 _ (ys1.map (Value.int .u8)) rfl (by rw [List.length_map, hy1]; omega) HN1.out HX1.out.src (ints_oneCell _ _) (by omega) ?_; intro w6 hown6 hgrow6))
        have hlen : (quoteL ys0 ++ ys1).length = n + len1 := by rw [List.length_append, HL.out, hy1]
        have hrd : Rd w6 (some ⟨w3.heap.size, 0, none⟩) (quoteL ys0 ++ ys1) := Rd.owned hlen (by rw [List.map_append]; exact hown6)
        have h46 : Below w3.heap.size w3 w6 := (hb34.grown hgrow5 hb34.size (fun k h => by cases h; exact Nat.le_refl _)).grown hgrow6 (Nat.le_trans hb34.size hgrow5.size) (fun k h => by cases h; exact Nat.le_refl _)
        have hend : Below w.heap.size w w6 := hB3.trans (h46.mono hB3.size)
        have HA : Hid (E (quoteL ys0 ++ ys1) false 1 = n) := (Plain.law2 ys0 ys1).trans HL.out
        clear hown5 hgrow5 hown6 hgrow6 h46 hb34 hown4 hv5
        refine (zse_zero _ _ _ (quoteL ys0 ++ ys1) _ hlen (by omega) hrd).mono ?_
        rintro e w7 ⟨rfl, rfl⟩
        rw [HA.out]
        go_wp2
        go_ret
        exact ⟨by simp, hend⟩
  · go_enter Try.func4, Try.ntmps4
    go_wp2_with (go_at_call 13; refine (zb13_no _ _ _ _ _ _ _ (by omega)).mono ?_; rintro e w ⟨rfl, rfl⟩)
    go_ret
    exact ⟨rfl, Below.refl _ _⟩
end Go.Proofs.Qxb6605558a
