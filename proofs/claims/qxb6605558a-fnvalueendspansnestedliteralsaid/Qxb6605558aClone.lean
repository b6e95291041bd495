import Derived.Test.Qxb6605558aWalks
namespace Go.Proofs.Qxb6605558a
open Go.RowKit
open Plain

theorem Try.info5 : (Try.prog.info? 5).map (fun i => (i.zero, i.size, i.bytes)) = some (some (.int .u8 0), 1, 1) := by kernel_rfl

theorem Rd.later {w w' : World} {a : Option Addr} {zs : List Int} (h : Rd w a zs) (hb : Below w.heap.size w w') : Rd w' a zs := by
  rcases h with h | ⟨b, o, rfl, hc⟩
  · exact .inl h
  · exact .inr ⟨b, o, rfl, fun i hi => (hb.cell (p := ⟨b, o + i, none⟩) (World.block_lt_of_cell? w _ (hc i hi))).trans (hc i hi)⟩

theorem Rd.owned {w : World} {base g n cap : Nat} {zs : List Int} (hn : zs.length = n) (h : w.ownsRow base 5 1 (.slice (some ⟨g, 0, none⟩) n cap) n (zs.map (Value.int .u8))) : Rd w (some ⟨g, 0, none⟩) zs := by
  refine .inr ⟨g, 0, rfl, fun i hi => ?_⟩
  rw [Nat.zero_add, h.cellAt i (by omega)]
  simp [hi]

/-- one store of the loop: the first k + 1 are the source's -/
theorem set_take (ys zs : List Int) (k : Nat) (c : Int) (hy : k < ys.length) (hz : k < zs.length) (hc : zs.getD k 0 = c) (h : ys.take k = zs.take k) : (ys.set k c).take (k + 1) = zs.take (k + 1) := by
  rw [List.take_add_one, List.take_add_one, List.take_set_of_le (by omega), h]
  simp [List.getD, hz] at hc
  simp [hy, hz, hc]

set_option maxHeartbeats 400000 in
theorem clone_any (a : Option Addr) (len cap : Nat) (zs : List Int) (w : World) (hl : zs.length = len) (hm : len ≤ 281474976710656) (hr : Rd w a zs) :
    Calls Try.prog 10 #[.slice a len cap] w fun e w' => ∃ (a' : Option Addr) (cap' : Nat), e = .returned (.slice a' len cap') ∧ Rd w' a' zs ∧ (a' = none → len = 0 ∧ cap' = 0) ∧ Below w.heap.size w w' := by
  have q22 : ∀ (w : World) (a : Option Addr) (n c n' c' : Nat), (binOp .eql 22 (.slice a n c) (.slice none n' c')).run Try.prog w = .ok (.bool a.isNone) w := fun w a n c n' c' => Lib.run_eql_slice_nil w _ _ a n c n' c' Try.underlying22
  obtain ⟨i0, hi, hz0, hz1, hz2⟩ := info_parts Try.info5
  have HR : Hid (Rd w a zs) := hr
  clear hr
  cases a with
  | none =>
    have h0 : len = 0 := by
      rcases HR.out with h | ⟨b, o, h, _⟩
      · rw [← hl, h]; rfl
      · cases h
    subst h0
    go_enter Try.func10, Try.ntmps10
    go_wp2
    go_ret
    exact ⟨none, 0, rfl, HR, fun _ => by simp, Below.refl _ _⟩
  | some x =>
    go_enter Try.func10, Try.ntmps10
    go_wp2_with (at_make; refine wpList_make_full _ rfl _ _ 22 rfl w.heap.size 5 i0 (.int .u8 0) 1 Try.underlying22 hi hz0 hz1 _ _ _ _ len rfl rfl rfl rfl ?b2 ?b3 (Nat.le_refl _) ?_)
    case b2 => rw [hz2]; omega
    case b3 => unfold maxLen; omega
    intro w0 hown0 hgrow0
    have hB0 : Below w.heap.size w w0 := (Below.refl _ _).grown hgrow0 (Nat.le_refl _) (fun k h => by cases h)
    have hown1 : w0.ownsRow w.heap.size 5 1 (.slice (some ⟨w.heap.size, 0, none⟩) len len) len ((List.replicate len (0 : Int)).map (Value.int .u8)) := by
      have e : (madeCells #[Value.int .u8 0] len).toList = (List.replicate len (0 : Int)).map (Value.int .u8) := by
        rw [toList_madeCells_one]; simp
      rw [← e]; exact hown0
    clear hown0 hgrow0
    go_wp2
    go_loopw [4] (fun i wr => ∃ (k : Nat) (ys : List Int), k ≤ len ∧ i = .int .i64 k ∧ Hid (ys.length = len) ∧ Hid (ys.take k = zs.take k) ∧
        Hid (wr.ownsRow w.heap.size 5 1 (.slice (some ⟨w.heap.size, 0, none⟩) len len) len (ys.map (Value.int .u8))) ∧ Below w.heap.size w wr) (fun i _ => len - (intOf i).toNat)
    case atStart => exact ⟨0, List.replicate len 0, Nat.zero_le _, rfl, by show _ = _; simp, by show _ = _; simp, hown1, hB0⟩
    case round =>
      obtain ⟨k, ys, hk, rfl, HY, HT, HO, hnx⟩ := hrel
      by_cases hlt : k < len
      · obtain ⟨b, o, hx, hcell⟩ := HR.out.at (k := k) (by omega)
        cases hx
        obtain ⟨c, hc⟩ : ∃ c, zs.getD k 0 = c := ⟨_, rfl⟩
        rw [hc] at hcell
        have hcell' : wr.cell? ⟨b, o + k, none⟩ = some (.int .u8 c) := (hnx.cell (p := ⟨b, o + k, none⟩) (World.block_lt_of_cell? w _ hcell)).trans hcell
        have HC : Hid (zs.getD k 0 = c) := hc
        have hst := HO.out.stored k (.int .u8 c)
        have hfz := HO.out.frozenAt k
        have hce : wr.cell? ⟨w.heap.size, k, none⟩ = some (.int .u8 (ys.getD k 0)) := by
          rw [HO.out.cellAt k (by omega)]
          have := HY.out
          simp [show k < ys.length from by omega]
        have H1 : Hid ((wr.setCell ⟨w.heap.size, k, none⟩ (.int .u8 c)).ownsRow w.heap.size 5 1 (.slice (some ⟨w.heap.size, 0, none⟩) len len) len ((ys.set k c).map (Value.int .u8))) := by
          have h1 := hst.1
          rw [← List.map_set] at h1
          exact h1
        have hB1 : Below w.heap.size w (wr.setCell ⟨w.heap.size, k, none⟩ (.int .u8 c)) := hnx.setCell (Nat.le_refl _) _
        have H2 : Hid ((ys.set k c).take (k + 1) = zs.take (k + 1)) := set_take ys zs k c (by have := HY.out; omega) (by omega) HC.out HT.out
        have H3 : Hid ((ys.set k c).length = len) := by show _ = _; rw [List.length_set]; exact HY.out
        clear hc hcell hst HO HY HT
        go_wp2
        go_roundw
        case rel => exact ⟨k + 1, ys.set k c, by omega, by go_num, H3, H2, H1, hB1⟩
        case measure => simp [intOf]; omega
      · have e : ys = zs := by
          have h1 := HT.out
          rwa [List.take_of_length_le (by have := HY.out; omega), List.take_of_length_le (by omega)] at h1
        have H1 : Hid (Rd wr (some ⟨w.heap.size, 0, none⟩) zs) := by
          have h2 := HO.out
          rw [e] at h2
          exact Rd.owned hl h2
        clear e HO HY HT
        go_wp2
        go_ret
        exact ⟨_, _, rfl, H1, (fun h => by cases h), hnx⟩
end Go.Proofs.Qxb6605558a
