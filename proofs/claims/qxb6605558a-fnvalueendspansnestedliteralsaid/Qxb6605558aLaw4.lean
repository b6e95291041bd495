import Derived.Test.Qxb6605558aValue
import Derived.Test.Qxb6605558aWrap
namespace Go.Proofs.Qxb6605558a
open Go.RowKit
open Plain

set_option maxHeartbeats 400000 in
theorem zb18_yes (i : Int) (a b : Option Addr) (la ca lb cb : Nat) (w : World) (h : la + lb ≤ 1048576) : Calls Try.prog 18 #[.int .i64 i, .slice a la ca, .slice b lb cb] w fun e w' => e = .returned (.bool true) ∧ w' = w := by
  go_enter Try.func18, Try.ntmps18
  go_wp2
  go_ret
  exact ⟨rfl, rfl⟩
set_option maxHeartbeats 400000 in
theorem zb18_no (i : Int) (a b : Option Addr) (la ca lb cb : Nat) (w : World) (h : 1048576 < la + lb) : Calls Try.prog 18 #[.int .i64 i, .slice a la ca, .slice b lb cb] w fun e w' => e = .returned (.bool false) ∧ w' = w := by
  go_enter Try.func18, Try.ntmps18
  go_wp2
  all_goals
    go_ret
    exact ⟨rfl, rfl⟩

theorem zve_zero (a : Option Addr) (len cap : Nat) (zs : List Int) (w : World) (hl : zs.length = len) (hm : len ≤ 2305843009213693952) (hr : Rd w a zs) :
    Calls Try.prog 16 #[.slice a len cap, .int .i64 0] w fun e w' => e = .returned (.int .i64 (VE zs 0 : Nat)) ∧ w' = w :=
  zve_any a len cap zs 0 w hl hm (Nat.zero_le _) hr

set_option maxHeartbeats 1000000 in
theorem law4_walk (dep : Int) (a0 : Option Addr) (len0 cap0 : Nat) (ys0 : List Int) (a1 : Option Addr) (len1 cap1 : Nat) (ys1 : List Int) (w : World) (hr0 : Rd w a0 ys0) (hy0 : ys0.length = len0) (hr1 : Rd w a1 ys1) (hy1 : ys1.length = len1) :
    Calls Try.prog 6 #[.int .i64 dep, .slice a0 len0 cap0, .slice a1 len1 cap1] w fun e w' => e = .returned (.bool true) ∧ Below w.heap.size w w' := by
  obtain ⟨i0, hi, hz0, hz1, hz2⟩ := info_parts Try.info5
  have HR0 : Hid (Rd w a0 ys0) := hr0
  have HR1 : Hid (Rd w a1 ys1) := hr1
  clear hr0 hr1
  by_cases hle : len0 + len1 ≤ 1048576
  · by_cases hc0 : 65536 < len0
    · go_enter Try.func6, Try.ntmps6
      go_wp2_with (go_at_call 18; refine (zb18_yes _ _ _ _ _ _ _ _ hle).mono ?_; rintro e w ⟨rfl, rfl⟩)
      go_ret
      exact ⟨rfl, Below.refl _ _⟩
    · by_cases hc1 : 65536 < len1
      · go_enter Try.func6, Try.ntmps6
        go_wp2_with (go_at_call 18; refine (zb18_yes _ _ _ _ _ _ _ _ hle).mono ?_; rintro e w ⟨rfl, rfl⟩)
        go_ret
        exact ⟨rfl, Below.refl _ _⟩
      · by_cases hlo : dep < 0
        · go_enter Try.func6, Try.ntmps6
          go_wp2_with (go_at_call 18; refine (zb18_yes _ _ _ _ _ _ _ _ hle).mono ?_; rintro e w ⟨rfl, rfl⟩)
          go_ret
          exact ⟨rfl, Below.refl _ _⟩
        · by_cases hhi : 65536 < dep
          · go_enter Try.func6, Try.ntmps6
            go_wp2_with (go_at_call 18; refine (zb18_yes _ _ _ _ _ _ _ _ hle).mono ?_; rintro e w ⟨rfl, rfl⟩)
            go_ret
            exact ⟨rfl, Below.refl _ _⟩
          · obtain ⟨n, rfl⟩ : ∃ n : Nat, dep = (n : Int) := ⟨dep.toNat, by omega⟩
            have hn : n ≤ 65536 := by omega
            go_enter Try.func6, Try.ntmps6
            go_wp2_with (go_at_call 18; refine (zb18_yes _ _ _ _ _ _ _ _ hle).mono ?_; rintro e w ⟨rfl, rfl⟩)
            refine (clone_any a0 len0 cap0 ys0 _ hy0 (by omega) HR0.out).mono ?_
            rintro e w1 ⟨b0, d0, rfl, hr0, _, hb1⟩
            have HS0 : Hid (Rd w1 b0 ys0) := hr0
            have HS1 : Hid (Rd w1 a1 ys1) := HR1.out.later hb1
            clear hr0
            go_wp2_with fail
            refine (clone_any a1 len1 cap1 ys1 _ hy1 (by omega) HS1.out).mono ?_
            rintro e w2 ⟨b1, d1, rfl, hr1, hn1, hb2⟩
            have HU0 : Hid (Rd w2 b0 ys0) := HS0.out.later hb2
            have HU1 : Hid (Rd w2 b1 ys1) := hr1
            have HN1 : Hid (b1 = none → len1 = 0 ∧ d1 = 0) := hn1
            have HB2 : Below w.heap.size w w2 := hb1.trans (hb2.mono hb1.size)
            clear hr1 hn1 hb1 hb2 HS0 HS1 HR0 HR1
            go_wp2_with fail
            refine (wrap_any n b0 len0 d0 ys0 _ hn hy0 (by omega) HU0.out).mono ?_
            rintro e w3 ⟨g, m, d3, q, rfl, hm, hq, hr3, hb3⟩
            have HL : Hid ((wrapL n ys0).length = m) := hm.symm
            have HQ : Hid ((quoteL ys0).length = q) := hq.symm
            have HT3 : Hid (Rd w3 (some ⟨g, 0, none⟩) (wrapL n ys0)) := hr3
            have HT1 : Hid (Rd w3 b1 ys1) := HU1.out.later hb3
            have hB3 : Below w.heap.size w w3 := HB2.trans (hb3.mono HB2.size)
            have hmb : m ≤ 262146 ∧ n + q ≤ m := by
              have h1 := wrap_len n ys0
              have h2 := quote_len ys0
              have h3 := esc_le ys0
              omega
            obtain ⟨hmb1, hmb2⟩ := hmb
            clear hr3 hb3 HB2 HU0 HU1 hm hq
            go_wp2_with (at_make; refine wpList_make_own _ rfl _ _ 22 rfl w3.heap.size 5 i0 (.int .u8 0) 1 Try.underlying22 hi hz0 hz1 _ _ _ (m + len1) rfl rfl (by omega) ?b2 ?b3 (Nat.le_refl _) ?_)
            case b2 => rw [hz2]; omega
            case b3 => unfold maxLen; omega
            intro w4 hown4 hgrow4
            have hb34 : Below w3.heap.size w3 w4 := (Below.refl _ _).grown hgrow4 (Nat.le_refl _) (fun k h => by cases h)
            have HV3 : Hid (Rd w4 (some ⟨g, 0, none⟩) (wrapL n ys0)) := HT3.out.later hb34
            have hv5 : ∀ w5 : World, w4.grownBy w5 (some w3.heap.size) → Rd w5 b1 ys1 := fun w5 hg => HT1.out.later (hb34.grown hg hb34.size (fun k h => by cases h; exact Nat.le_refl _))
            clear hgrow4
            go_wp2_with (first
              | (at_builtin; refine wpList_append_fits_any _ rfl (.tmp 45) (.tmp 46) 22 rfl w3.heap.size 5 i0 1 Try.underlying22 hi hz1 w3.heap.size 0 (m + len1) _ rfl hown4 _ m _ ((wrapL n ys0).map (Value.int .u8)) rfl (by rw [List.length_map, HL.out]; omega) (by intro h; cases h) HV3.out.src (ints_oneCell _ _) (by omega) ?_; intro w5 hown5 hgrow5; simp only [Nat.zero_add, List.nil_append] at hown5; have HX1 : Hid (Rd w5 b1 ys1) := hv5 w5 hgrow5)
              | (at_builtin; refine wpList_append_fits_any _ rfl (.tmp 48) (.tmp 49) 22 rfl w3.heap.size 5 i0 1 Try.underlying22 hi hz1 w3.heap.size m (m + len1) _ rfl hown5 _ len1 _ (ys1.map (Value.int .u8)) rfl (by rw [List.length_map, hy1]; omega) HN1.out HX1.out.src (ints_oneCell _ _) (by omega) ?_; intro w6 hown6 hgrow6))
            have hlen : (wrapL n ys0 ++ ys1).length = m + len1 := by rw [List.length_append, HL.out, hy1]
            have hrd : Rd w6 (some ⟨w3.heap.size, 0, none⟩) (wrapL n ys0 ++ ys1) := Rd.owned hlen (by rw [List.map_append]; exact hown6)
            have h46 : Below w3.heap.size w3 w6 := (hb34.grown hgrow5 hb34.size (fun k h => by cases h; exact Nat.le_refl _)).grown hgrow6 (Nat.le_trans hb34.size hgrow5.size) (fun k h => by cases h; exact Nat.le_refl _)
            have hend : Below w.heap.size w w6 := hB3.trans (h46.mono hB3.size)
            have HA : Hid (VE (wrapL n ys0 ++ ys1) 0 = m) := (Plain.law4a n ys0 ys1).trans HL.out
            have HB : Hid (VE (wrapL n ys0 ++ ys1) n = n + q) := by
              have h := Plain.law4b n ys0 ys1
              rw [HQ.out] at h
              exact h
            clear hown5 hgrow5 hown6 hgrow6 h46 hb34 hown4 hv5
            have HLN : Hid ((wrapL n ys0 ++ ys1).length = m + len1) := hlen
            have HRD : Hid (Rd w6 (some ⟨w3.heap.size, 0, none⟩) (wrapL n ys0 ++ ys1)) := hrd
            clear hlen hrd
            refine (zve_zero _ _ _ (wrapL n ys0 ++ ys1) _ HLN.out (by omega) HRD.out).mono ?_
            rintro e w6 ⟨rfl, rfl⟩
            rw [HA.out]
            go_wp2_with fail
            refine (zve_any _ _ _ (wrapL n ys0 ++ ys1) n _ HLN.out (by omega) (by omega) HRD.out).mono ?_
            rintro e w6 ⟨rfl, rfl⟩
            rw [HB.out]
            go_wp2
            go_ret
            exact ⟨by simp, hend⟩
  · go_enter Try.func6, Try.ntmps6
    go_wp2_with (go_at_call 18; refine (zb18_no _ _ _ _ _ _ _ _ (by omega)).mono ?_; rintro e w ⟨rfl, rfl⟩)
    go_ret
    exact ⟨rfl, Below.refl _ _⟩
end Go.Proofs.Qxb6605558a
