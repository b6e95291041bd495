/-
  THE GROUND OF SEAT b6003634a: slices of bytes that can be read; the clone; the bound on the total length.
-/
import Derived.Test.Qxb6003634aRows
import Derived.WalkKit
import Derived.WalkSpells
import Derived.WalkLawsBesides
import Derived.OpenShut
import Derived.Laws.CopyOwn
namespace Go.Proofs.Qxb6003634a
open Go.RowKit

theorem ret_int {k : IntKind} {a b : Int} (h : a = b) : Ending.returned (.int k a) = .returned (.int k b) := by rw [h]
theorem ret_bool {a b : Bool} (h : a = b) : Ending.returned (.bool a) = .returned (.bool b) := by rw [h]

/-- A SLICE OF BYTES THAT CAN BE READ: empty, or the numbers 'zs' lie at its address. -/
def Rd (w : World) (a : Option Addr) (zs : List Int) : Prop :=
  zs = [] ∨ ∃ b o, a = some ⟨b, o, none⟩ ∧ ∀ i, i < zs.length → w.cell? ⟨b, o + i, none⟩ = some (.int .u8 (zs.getD i 0))

theorem Rd.at {w : World} {a : Option Addr} {zs : List Int} (h : Rd w a zs) (hk : 0 < zs.length) :
    ∃ b o, a = some ⟨b, o, none⟩ ∧ ∀ i, i < zs.length → w.cell? ⟨b, o + i, none⟩ = some (.int .u8 (zs.getD i 0)) := by
  rcases h with rfl | ⟨b, o, rfl, hc⟩
  · simp at hk
  · exact ⟨b, o, rfl, hc⟩

/-- every number of the list is a byte -/
def Bytes (zs : List Int) : Prop := ∀ j, 0 ≤ zs.getD j 0 ∧ zs.getD j 0 ≤ 255

/-- FROM WHAT THE ROW's STEP SAYS OF A SLICE OF BYTES TO 'Rd'. -/
theorem rd_of {w : World} {a : Option Addr} {len cap : Nat} {zs : List Int}
    (h : (a = none ∧ len = 0 ∧ cap = 0 ∧ zs = []) ∨ ∃ x, a = some x ∧ len ≤ cap ∧ cap ≤ maxLen ∧ zs.length = cap ∧ (∀ i, i < zs.length → w.cell? (x.add i) = some (.int .u8 (zs.getD i 0))) ∧ ∀ n ∈ zs, (Lit.int .u8 n).wf = true) :
    ∃ ys : List Int, Rd w a ys ∧ ys.length = len ∧ Bytes ys := by
  rcases h with ⟨rfl, rfl, rfl, rfl⟩ | ⟨x, rfl, hlc, _, hz, hc, hwf⟩
  · exact ⟨[], .inl rfl, rfl, fun j => by simp⟩
  · refine ⟨zs.take len, ?_, by rw [List.length_take]; omega, fun j => ?_⟩
    · by_cases hp : 0 < zs.length
      · obtain ⟨b, off, rfl, hcell⟩ := ints_at hc hp
        refine .inr ⟨b, off, rfl, fun i hi => ?_⟩
        rw [List.length_take] at hi
        rw [hcell i (by omega)]
        congr 2
        simp [List.getD, show i < len from by omega]
      · exact .inl (by rw [List.eq_nil_of_length_eq_zero (show zs.length = 0 from by omega)]; simp)
    · by_cases hj : j < len
      · have := range_u8 hwf j
        simp [List.getD, hj]
        omega
      · have e : (zs.take len)[j]? = Option.none := List.getElem?_eq_none (by rw [List.length_take]; omega)
        simp [List.getD, e]

theorem Rd.later {w w' : World} {a : Option Addr} {zs : List Int} (h : Rd w a zs) (hb : Below w.heap.size w w') : Rd w' a zs := by
  rcases h with h | ⟨b, o, rfl, hc⟩
  · exact .inl h
  · exact .inr ⟨b, o, rfl, fun i hi => (hb.cell (p := ⟨b, o + i, none⟩) (World.block_lt_of_cell? w _ (hc i hi))).trans (hc i hi)⟩

theorem Rd.owned {w : World} {base g n cap : Nat} {zs : List Int} (hn : zs.length = n) (h : w.ownsRow base 5 1 (.slice (some ⟨g, 0, none⟩) n cap) n (zs.map (Value.int .u8))) : Rd w (some ⟨g, 0, none⟩) zs := by
  refine .inr ⟨g, 0, rfl, fun i hi => ?_⟩
  rw [Nat.zero_add, h.cellAt i (by omega)]
  simp [hi]

theorem Rd.src {w : World} {a : Option Addr} {zs : List Int} (h : Rd w a zs) : ∀ ad, a = some ad → ∀ j u, (zs.map (Value.int .u8))[j]? = some u → w.cell? (ad.add j) = some u := by
  intro ad had j u hu
  have hj : j < zs.length := by
    have := (List.getElem?_eq_some_iff.1 hu).1
    simpa using this
  obtain ⟨b, o, e, hc⟩ := h.at (by omega)
  rw [e] at had
  cases had
  rw [Go.WideShapes.add_plain, hc j hj, ← hu]
  simp [hj]

theorem Try.info5 : (Try.prog.info? 5).map (fun i => (i.zero, i.size, i.bytes)) = some (some (.int .u8 0), 1, 1) := by kernel_rfl
theorem Try.size5 : (Try.prog.info? 5).map (·.size) = some 1 := by kernel_rfl

/-- what lies in a row just made, behind a copy that fills it -/
theorem copied {w : World} {base g n : Nat} {xs : List Value} {zs : List Int} (h : w.ownsRow base 5 1 (.slice (some ⟨g, 0, none⟩) n n) n xs) :
    ∃ cur : Array Value, w.heap[g]? = some (.cells cur 5 (0, 0)) ∧ cur.size = n ∧
      Rd (w.setRow g ((zs.map (Value.int .u8)) ++ cur.toList.drop n).toArray) (some ⟨g, 0, none⟩) zs := by
  rcases h.2 with ⟨h', _⟩ | ⟨g', cap', cur, h', _, hg, _, _, hcs, _⟩
  · cases h'
  · cases h'
    refine ⟨cur, hg, by omega, .inr ⟨g, 0, rfl, fun i hi => ?_⟩⟩
    rw [show 0 + i = i from Nat.zero_add i, cell_of_row _ g i _ 5 (0, 0) (setRow_heap w g cur _ 5 (0, 0) hg)]
    rw [List.getElem?_toArray, List.getElem?_append_left (by simpa using hi)]
    simp [hi]

set_option maxHeartbeats 400000 in
theorem clone_any (a : Option Addr) (len cap : Nat) (zs : List Int) (w : World) (hl : zs.length = len) (hm : len ≤ 281474976710656) (hr : Rd w a zs) :
    Calls Try.prog 7 #[.slice a len cap] w fun e w' => ∃ a' : Option Addr, e = .returned (.slice a' len len) ∧ Rd w' a' zs ∧ (a' = none → len = 0 ∧ len = 0) ∧ Below w.heap.size w w' := by
  have q22 : ∀ (w : World) (a : Option Addr) (n c n' c' : Nat), (binOp .eql 22 (.slice a n c) (.slice none n' c')).run Try.prog w = .ok (.bool a.isNone) w := fun w a n c n' c' => Lib.run_eql_slice_nil w _ _ a n c n' c' Try.underlying22
  obtain ⟨i0, hi, hz0, hz1, hz2⟩ := info_parts Try.info5
  have HR : Hid (Rd w a zs) := hr
  clear hr
  cases a with
  | none =>
    obtain rfl : len = 0 := by
      rcases HR.out with h | ⟨b, o, h, _⟩
      · rw [← hl, h]; rfl
      · cases h
    go_enter Try.func7, Try.ntmps7
    go_wp2
    go_ret
    exact ⟨none, rfl, HR, (fun _ => by simp), Below.refl _ _⟩
  | some x =>
    go_enter Try.func7, Try.ntmps7
    go_wp2_with (at_make; refine wpList_make_full _ rfl _ _ 22 rfl w.heap.size 5 i0 (.int .u8 0) 1 Try.underlying22 hi hz0 hz1 _ _ _ _ len rfl rfl rfl rfl ?b2 ?b3 (Nat.le_refl _) ?_)
    case b2 => rw [hz2]; omega
    case b3 => unfold maxLen; omega
    intro w0 hown0 hgrow0
    have hB0 : Below w.heap.size w w0 := (Below.refl _ _).grown hgrow0 (Nat.le_refl _) (fun k h => by cases h)
    have HS : Hid (Rd w0 (some x) zs) := HR.out.later hB0
    obtain ⟨cur, hg, hcs, hrd⟩ := copied (zs := zs) hown0
    have HD : Hid (Rd (w0.setRow w.heap.size ((zs.map (Value.int .u8)) ++ cur.toList.drop len).toArray) (some ⟨w.heap.size, 0, none⟩) zs) := hrd
    clear hown0 hgrow0 hrd
    go_wp2_with (with_reducible show wpList _ _ _ (Oper.mk _ (Op.call (Call.mk (Callee.builtin Builtin.copy) _ _)) _ _ _ _ :: _) _ _; refine wpList_copy_own rfl _ _ 22 22 rfl 5 Try.underlying22 Try.size5 w.heap.size 0 len len x len cap rfl rfl cur 5 hg (zs.map (Value.int .u8)) (by rw [List.length_map, hl]; exact (Nat.min_self len).symm) (HS.out.src x rfl) (by rw [List.length_map, hl]; omega) (ints_oneCell _ _) ?_)
    go_ret
    exact ⟨_, rfl, HD, (fun h => by cases h), below_setRow hB0 (Nat.le_refl _) _⟩
end Go.Proofs.Qxb6003634a
