/-
  SEAT b6003634a: the law FnCodeLengthIsShortestStableCode (4), walked.
-/
import Derived.Test.Qxb6003634aPre
namespace Go.Proofs.Qxb6003634a
open Go.RowKit
open Plain

theorem Rd.two {w : World} {a : Option Addr} {zs : List Int} (h : Rd w a zs) (hp : 0 < zs.length) : ∃ b o, a = some ⟨b, o, none⟩ ∧ Two w b o zs.length (zs.getD 0 0) (zs.getD 1 0) := by
  obtain ⟨b, o, e, hc⟩ := h.at hp
  exact ⟨b, o, e, hc 0 hp, fun h2 => hc 1 (by omega)⟩

theorem getD_left (zs ts : List Int) (k : Nat) (h : k < zs.length) : (zs ++ ts).getD k 0 = zs.getD k 0 := by
  simp only [List.getD, List.getElem?_append_left h]
theorem getD_right (zs ts : List Int) (k : Nat) (h : zs.length ≤ k) : (zs ++ ts).getD k 0 = ts.getD (k - zs.length) 0 := by
  simp only [List.getD, List.getElem?_append_right h]

set_option maxHeartbeats 1000000 in
theorem law7_walk (a0 : Option Addr) (len0 cap0 : Nat) (ys0 : List Int) (a1 : Option Addr) (len1 cap1 : Nat) (ys1 : List Int) (w : World) (hr0 : Rd w a0 ys0) (hy0 : ys0.length = len0) (hB0 : Bytes ys0) (hr1 : Rd w a1 ys1) (hy1 : ys1.length = len1) (hB1 : Bytes ys1) :
    Calls Try.prog 4 #[.slice a0 len0 cap0, .slice a1 len1 cap1] w fun e w' => e = .returned (.bool true) ∧ Below w.heap.size w w' := by
  obtain ⟨i0, hi, hz0, hz1, hz2⟩ := info_parts Try.info5
  have HR0 : Hid (Rd w a0 ys0) := hr0
  have HR1 : Hid (Rd w a1 ys1) := hr1
  clear hr0 hr1
  by_cases hle : len0 + len1 ≤ 1048576
  · by_cases hc0 : 65536 < len0
    · go_enter Try.func4, Try.ntmps4
      go_wp2_with (go_at_call 11; refine (zb11_yes _ _ _ _ _ _ _ hle).mono ?_; rintro e w ⟨rfl, rfl⟩)
      go_ret
      exact ⟨rfl, Below.refl _ _⟩
    · by_cases hc1 : 65536 < len1
      · go_enter Try.func4, Try.ntmps4
        go_wp2_with (go_at_call 11; refine (zb11_yes _ _ _ _ _ _ _ hle).mono ?_; rintro e w ⟨rfl, rfl⟩)
        go_ret
        exact ⟨rfl, Below.refl _ _⟩
      · by_cases hz : len0 < 1
        · have hzb : ((len0 : Int) == 0) = true := by simp; omega
          go_enter Try.func4, Try.ntmps4
          go_wp2_with (go_at_call 11; refine (zb11_yes _ _ _ _ _ _ _ hle).mono ?_; rintro e w ⟨rfl, rfl⟩)
          go_ret
          exact ⟨rfl, Below.refl _ _⟩
        · have hzb : ((len0 : Int) == 0) = false := by simp; omega
          have hd0 : decide ((65536 : Int) < (len0 : Int)) = false := by simp; omega
          have hd1 : decide ((65536 : Int) < (len1 : Int)) = false := by simp; omega
          go_enter Try.func4, Try.ntmps4
          go_wp2_with (go_at_call 11; refine (zb11_yes _ _ _ _ _ _ _ hle).mono ?_; rintro e w ⟨rfl, rfl⟩)
          refine (clone_any a0 len0 cap0 ys0 _ hy0 (by omega) HR0.out).mono ?_
          rintro e w1 ⟨b0, rfl, hr0, _, hb1⟩
          have HS0 : Hid (Rd w1 b0 ys0) := hr0
          have HS1 : Hid (Rd w1 a1 ys1) := HR1.out.later hb1
          clear hr0
          go_wp2_with fail
          refine (clone_any a1 len1 cap1 ys1 _ hy1 (by omega) HS1.out).mono ?_
          rintro e w2 ⟨b1, rfl, hr1, hn1, hb2⟩
          have HU0 : Hid (Rd w2 b0 ys0) := HS0.out.later hb2
          have HU1 : Hid (Rd w2 b1 ys1) := hr1
          have HN1 : Hid (b1 = none → len1 = 0 ∧ len1 = 0) := hn1
          have hB2 : Below w.heap.size w w2 := hb1.trans (hb2.mono hb1.size)
          obtain ⟨b, o, rfl, ht0⟩ := HU0.out.two (by omega)
          rw [hy0] at ht0
          obtain ⟨x, hx⟩ : ∃ x, ys0.getD 0 0 = x := ⟨_, rfl⟩
          obtain ⟨y, hy⟩ : ∃ y, ys0.getD 1 0 = y := ⟨_, rfl⟩
          have hxb := hB0 0
          have hyb := hB0 1
          rw [hx] at ht0 hxb
          rw [hy] at ht0 hyb
          have HX : Hid (ys0.getD 0 0 = x) := hx
          have HY : Hid (ys0.getD 1 0 = y) := hy
          have HT : Hid (Two w2 b o len0 x y) := ht0
          obtain ⟨r, hr⟩ : ∃ r, cl len0 x y = r := ⟨_, rfl⟩
          have HC : Hid (cl len0 x y = r) := hr
          clear hr1 hn1 hb1 hb2 HS0 HS1 HR0 HR1 hx hy ht0 hr hB0
          go_wp2_with fail
          refine (zlen_any b o len0 len0 x y _ (by omega) (by omega) hxb hyb HT.out).mono ?_
          rintro e w2 ⟨rfl, rfl⟩
          rw [HC.out]
          go_wp2_with fail
          refine (pre_any b o len0 len0 x y _ (by omega) (by omega) (by omega) hxb hyb HT.out).mono ?_
          rintro e w2 ⟨rfl, rfl⟩
          rw [HC.out]
          by_cases hr0 : r < 1
          · go_wp2
            go_ret
            exact ⟨rfl, hB2⟩
          · have hlaw := cl_law len0 x y (by omega) r HC.out (by omega)
            obtain ⟨hrn, hrr, hrk, hrm⟩ := hlaw
            have H2 : Hid (cl r x y = r) := hrr
            have H3 : Hid (∀ k : Nat, 1 ≤ k → k < r → cl k x y = 0) := hrk
            have H4 : Hid (∀ (m : Nat) (y' : Int), (2 ≤ len0 → y' = y) → cl (len0 + m) x y' = r) := hrm
            clear hrr hrk hrm
            have hr1 : ((r : Int) == 0) = false := by simp; omega
            have hr2 : decide ((len0 : Int) < (r : Int)) = false := by simp; omega
            go_wp2_with fail
            refine (zlen_any b o r len0 x y _ (by omega) (by omega) hxb hyb (HT.out.cut r hrn)).mono ?_
            rintro e w2 ⟨rfl, rfl⟩
            rw [H2.out]
            go_wp2
            go_loop [6] (fun i => ∃ k : Nat, 1 ≤ k ∧ k ≤ r ∧ i = .int .i64 k) (fun i => r - (intOf i).toNat)
            case atStart => exact ⟨1, by omega, by omega, rfl⟩
            case round =>
              obtain ⟨k, hk1, hk2, rfl⟩ := hrel
              by_cases hlt : k < r
              · have HK : Hid (cl k x y = 0) := H3.out k hk1 hlt
                go_wp2_with fail
                refine (zlen_any b o k len0 x y _ (by omega) (by omega) hxb hyb (HT.out.cut k (by omega))).mono ?_
                rintro e w2 ⟨rfl, rfl⟩
                rw [HK.out]
                go_wp2
                go_round
                case rel => exact ⟨k + 1, by omega, by omega, by go_num⟩
                case measure => simp [intOf]; omega
              · go_wp2_with (at_make; refine wpList_make_own _ rfl _ _ 22 rfl w2.heap.size 5 i0 (.int .u8 0) 1 Try.underlying22 hi hz0 hz1 _ _ _ (len0 + len1) rfl rfl (by omega) ?b2 ?b3 (Nat.le_refl _) ?_)
                case b2 => omega
                case b3 => unfold maxLen; omega
                intro w4 hown4 hgrow4
                have hb34 : Below w2.heap.size w2 w4 := (Below.refl _ _).grown hgrow4 (Nat.le_refl _) (fun k h => by cases h)
                have HV0 : Hid (Rd w4 (some ⟨b, o, none⟩) ys0) := HU0.out.later hb34
                have hv5 : ∀ w5 : World, w4.grownBy w5 (some w2.heap.size) → Rd w5 b1 ys1 := fun w5 hg => HU1.out.later (hb34.grown hg hb34.size (fun k h => by cases h; exact Nat.le_refl _))
                clear hgrow4
                go_wp2_with (first
                  | (at_builtin; refine wpList_append_fits_any _ rfl (.tmp 61) (.tmp 62) 22 rfl w2.heap.size 5 i0 1 Try.underlying22 hi hz1 w2.heap.size 0 (len0 + len1) _ rfl hown4 _ len0 _ (ys0.map (Value.int .u8)) rfl (by rw [List.length_map, hy0]; omega) (by intro h; cases h) HV0.out.src (ints_oneCell _ _) (by omega) ?_; intro w5 hown5 hgrow5; simp only [Nat.zero_add, List.nil_append] at hown5; have HX1 : Hid (Rd w5 b1 ys1) := hv5 w5 hgrow5)
                  | (at_builtin; refine wpList_append_fits_any _ rfl (.tmp 64) (.tmp 65) 22 rfl w2.heap.size 5 i0 1 Try.underlying22 hi hz1 w2.heap.size len0 (len0 + len1) _ rfl hown5 _ len1 _ (ys1.map (Value.int .u8)) rfl (by rw [List.length_map, hy1]; omega) HN1.out HX1.out.src (ints_oneCell _ _) (by omega) ?_; intro w6 hown6 hgrow6))
                have hlen : (ys0 ++ ys1).length = len0 + len1 := by rw [List.length_append, hy0, hy1]
                have hrd : Rd w6 (some ⟨w2.heap.size, 0, none⟩) (ys0 ++ ys1) := Rd.owned hlen (by rw [List.map_append]; exact hown6)
                have h46 : Below w2.heap.size w2 w6 := (hb34.grown hgrow5 hb34.size (fun k h => by cases h; exact Nat.le_refl _)).grown hgrow6 (Nat.le_trans hb34.size hgrow5.size) (fun k h => by cases h; exact Nat.le_refl _)
                have hend : Below w.heap.size w w6 := hB2.trans (h46.mono hB2.size)
                obtain ⟨b', o', he, ht6⟩ := hrd.two (by omega)
                cases he
                rw [hlen] at ht6
                have hx6 : (ys0 ++ ys1).getD 0 0 = x := by rw [getD_left _ _ _ (by omega)]; exact HX.out
                obtain ⟨y', hy6⟩ : ∃ y', (ys0 ++ ys1).getD 1 0 = y' := ⟨_, rfl⟩
                have hy7 : 2 ≤ len0 → y' = y := by
                  intro h2
                  rw [← hy6, ← HY.out]
                  exact getD_left _ _ _ (by omega)
                have hy8 : 0 ≤ y' ∧ y' ≤ 255 := by
                  by_cases h2 : 2 ≤ len0
                  · rw [hy7 h2]; exact hyb
                  · rw [← hy6]
                    rw [getD_right _ _ _ (by omega)]; exact hB1 _
                rw [hx6, hy6] at ht6
                have H5 : Hid (cl (len0 + len1) x y' = r) := H4.out len1 y' hy7
                have HT6 : Hid (Two w6 w2.heap.size 0 (len0 + len1) x y') := ht6
                clear hown5 hgrow5 hown6 hgrow6 h46 hb34 hown4 hv5 hrd hlen hx6 hy6 hy7 ht6
                refine (zlen_any _ _ _ _ x y' _ (by omega) (by omega) hxb hy8 HT6.out).mono ?_
                rintro e w6 ⟨rfl, rfl⟩
                rw [H5.out]
                go_wp2
                go_ret
                exact ⟨by simp, hend⟩
  · go_enter Try.func4, Try.ntmps4
    go_wp2_with (go_at_call 11; refine (zb11_no _ _ _ _ _ _ _ (by omega)).mono ?_; rintro e w ⟨rfl, rfl⟩)
    go_ret
    exact ⟨rfl, Below.refl _ _⟩
end Go.Proofs.Qxb6003634a
