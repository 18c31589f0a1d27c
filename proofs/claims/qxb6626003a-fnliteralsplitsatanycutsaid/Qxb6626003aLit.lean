/-
  THE CONTRACTS OF 'literal' (function 10), 'ZZliteral' (6), 'allTrueB1' (7), 'sameBoolsB1' (9) and of the laws' own bounds (5, 8).
-/
import Derived.Test.Qxb6626003aRows
import Derived.WalkKit
import Derived.WalkSpells
import Derived.WalkSmall
import Derived.BigQuiet
namespace Go.Proofs.Qxb6626003a
open Go.RowKit

theorem hide {p : Prop} (h : p) : Hid p := h
/-- A bool came back. -/
def SomeBool (e : Ending) : Prop := ∃ b : Bool, e = .returned (.bool b)
theorem Try.info4 : (Try.prog.info? 4).map (fun i => (i.zero, i.size, i.bytes)) = some (some (.bool false), 1, 1) := by kernel_rfl

/-- The first n cells of block g hold true. -/
def Trues (w : World) (g n : Nat) : Prop := ∀ i, i < n → w.cell? ⟨g, i, none⟩ = some (.bool true)
theorem Trues.later {w w' : World} {g n : Nat} (h : Trues w g n) (hb : Below w.heap.size w w') : Trues w' g n := fun i hi => cell_later hb (h i hi)
theorem Trues.far {w : World} {g n : Nat} (h : Trues w g n) (k j : Nat) (u : Value) (hne : g ≠ k) : Trues (w.setCell ⟨k, j, none⟩ u) g n := fun i hi =>
  (World.cell?_of_block (a := ⟨g, i, none⟩) (Below.heap_setCell w ⟨k, j, none⟩ u g hne)).trans (h i hi)
theorem below_of_grown {w w' : World} (h : w.grownBy w' none) : Below w.heap.size w w' := (Below.refl _ _).grown h (Nat.le_refl _) (fun k hk => by cases hk)

theorem zz8_any (s : ByteArray) (w : World) : Calls Try.prog 8 #[.string s] w fun e w' => SomeBool e ∧ w' = w := by
  go_enter Try.func8, Try.ntmps8
  go_wp2
  all_goals
    go_ret
    exact ⟨⟨_, rfl⟩, rfl⟩
theorem zz5_any (a b : ByteArray) (w : World) : Calls Try.prog 5 #[.string a, .string b] w fun e w' => SomeBool e ∧ w' = w := by
  go_enter Try.func5, Try.ntmps5
  go_wp2
  all_goals
    go_ret
    exact ⟨⟨_, rfl⟩, rfl⟩

set_option maxHeartbeats 400000 in
theorem all_true (g n c : Nat) (w : World) (hn : n ≤ 2097152) (hT : Trues w g n) : Calls Try.prog 7 #[.slice (some ⟨g, 0, none⟩) n c] w fun e w' => e = .returned (.bool true) ∧ w' = w := by
  have HT := hide hT
  clear hT
  go_enter Try.func7, Try.ntmps7
  go_wp2
  go_loop [3] (fun i => ∃ j : Nat, j ≤ n ∧ i = .int .i64 j) (fun i => n - (intOf i).toNat)
  case atStart => exact ⟨0, Nat.zero_le _, rfl⟩
  case round =>
    obtain ⟨j, hj, rfl⟩ := hrel
    by_cases hlt : j < n
    · have hc := HT.out j hlt
      go_wp2
      go_round
      case rel => exact ⟨j + 1, by omega, by go_num⟩
      case measure => simp [intOf]; omega
    · go_wp2
      go_ret
      exact ⟨rfl, rfl⟩

set_option maxHeartbeats 400000 in
theorem same_true (g n c g' c' : Nat) (w : World) (hn : n ≤ 2097152) (hT : Trues w g n) (hT' : Trues w g' n) : Calls Try.prog 9 #[.slice (some ⟨g, 0, none⟩) n c, .slice (some ⟨g', 0, none⟩) n c'] w fun e w' => e = .returned (.bool true) ∧ ∃ q, w' = w.drewN q := by
  have HT := hide hT
  have HT' := hide hT'
  clear hT hT'
  go_enter Try.func9, Try.ntmps9
  go_wp2
  go_loopw [5] (fun i wr => ∃ j : Nat, j ≤ n ∧ i = .int .i64 j ∧ ∃ q, wr = w.drewN q) (fun i _ => n - (intOf i).toNat)
  case atStart => exact ⟨0, Nat.zero_le _, rfl, 0, rfl⟩
  case round =>
    obtain ⟨j, hj, rfl, q, rfl⟩ := hrel
    by_cases hlt : j < n
    · have hc := HT.out j hlt
      have hc' := HT'.out j hlt
      go_wp2
      go_quiet (fail)
      go_wp2
      go_roundw
      case rel => exact ⟨j + 1, by omega, by go_num, _, rfl⟩
      case measure => simp [intOf]; omega
    · go_wp2
      go_ret
      exact ⟨rfl, _, rfl⟩

set_option maxHeartbeats 400000 in
theorem lit_any (s : ByteArray) (w : World) (hs : s.size ≤ 2097152) :
    Calls Try.prog 10 #[.string s] w fun e w' => ∃ g : Nat, e = .returned (.agg #[.string s, .slice (some ⟨g, 0, none⟩) s.size s.size, .slice none 0 0, .slice none 0 0, .slice none 0 0]) ∧ Trues w' g s.size ∧ Below w.heap.size w w' := by
  obtain ⟨i4, p1, p2, p3, p4⟩ := info_parts Try.info4
  go_enter Try.func10, Try.ntmps10
  go_wp2_with (at_make; refine wpList_make_full _ rfl _ _ 23 rfl (w.heap.size + 1) 4 i4 _ 1 Try.underlying23 p1 p2 p3 _ _ _ _ s.size rfl rfl rfl rfl (by rw [p4]; omega) (by simp only [maxLen]; omega) (by simp) ?_; intro w2 hown hgrow)
  rw [World.size_alloc] at hown
  have hblk : w2.heap[w.heap.size]? = some (.cells #[.string ⟨#[]⟩, .slice none 0 0, .slice none 0 0, .slice none 0 0, .slice none 0 0] 31 (0, 0)) := by
    rw [hgrow.block w.heap.size (by simp) (by simp)]
    exact heap_alloc_new w _
  have HB2 := hide (((Below.refl _ w).alloc (Nat.le_refl _) _).trans ((below_of_grown hgrow).mono (by simp)))
  have HOW := hide hown
  have HBK := hide hblk
  clear hown hgrow hblk
  go_loopw [10] (fun i wr => ∃ (j : Nat) (xs : List Value), j ≤ s.size ∧ i = .int .i64 j ∧ wr.ownsRow (w.heap.size + 1) 4 1 (.slice (some ⟨w.heap.size + 1, 0, none⟩) s.size s.size) s.size xs ∧ (∀ t, t < j → xs[t]? = some (.bool true)) ∧
      wr.heap[w.heap.size]? = some (.cells #[.string ⟨#[]⟩, .slice none 0 0, .slice none 0 0, .slice none 0 0, .slice none 0 0] 31 (0, 0)) ∧ Below w.heap.size w wr) (fun i _ => s.size - (intOf i).toNat)
  case atStart => exact ⟨0, _, Nat.zero_le _, rfl, HOW.out, fun t h => by omega, HBK.out, HB2.out⟩
  case round =>
    obtain ⟨j, xs, hj, rfl, hO, hX, hK, hB⟩ := hrel
    clear HOW HBK HB2
    by_cases hlt : j < s.size
    · have hxl := hO.1
      obtain ⟨u, hu⟩ : ∃ u, wr.cell? ⟨w.heap.size + 1, j, none⟩ = some u := ⟨_, (hO.cellAt j (by omega)).trans (List.getElem?_eq_getElem (by omega))⟩
      have hf := hO.frozenAt j
      have HXL := hide hxl
      have HO := hide hO
      have HX := hide hX
      have HK := hide hK
      have HB := hide hB
      clear hxl hO hX hK hB
      go_wp2
      go_roundw
      case rel =>
        refine ⟨j + 1, _, by omega, by go_num, (HO.out.stored j _).1, fun t ht => ?_, ?_, HB.out.setCell (by simp) _⟩
        · have hxl := HXL.out
          by_cases e : t = j
          · subst e
            rw [List.getElem?_set_self (by omega)]
          · rw [List.getElem?_set_ne (by omega)]
            exact HX.out t (by omega)
        · rw [Below.heap_setCell wr _ _ _ (by simp)]
          exact HK.out
      case measure => simp [intOf]; omega
    · have hc : ∀ i v, (#[.string ⟨#[]⟩, .slice none 0 0, .slice none 0 0, .slice none 0 0, .slice none 0 0] : Array Value)[i]? = some v → wr.cell? ⟨w.heap.size, i, none⟩ = some v := fun i v hv => (cell_of_row wr w.heap.size i _ 31 (0, 0) hK).trans hv
      have hc0 : wr.cell? ⟨w.heap.size, 0, none⟩ = some (.string ⟨#[]⟩) := hc 0 _ rfl
      have hc1 : wr.cell? ⟨w.heap.size, 1, none⟩ = some (.slice none 0 0) := hc 1 _ rfl
      have hc2 : wr.cell? ⟨w.heap.size, 2, none⟩ = some (.slice none 0 0) := hc 2 _ rfl
      have hc3 : wr.cell? ⟨w.heap.size, 3, none⟩ = some (.slice none 0 0) := hc 3 _ rfl
      have hc4 : wr.cell? ⟨w.heap.size, 4, none⟩ = some (.slice none 0 0) := hc 4 _ rfl
      have hf0 := frozen_of_row wr w.heap.size 0 _ 31 hK
      have hf1 := frozen_of_row wr w.heap.size 1 _ 31 hK
      have hf2 := frozen_of_row wr w.heap.size 2 _ 31 hK
      have hf3 := frozen_of_row wr w.heap.size 3 _ 31 hK
      have hf4 := frozen_of_row wr w.heap.size 4 _ 31 hK
      have HT : Hid (Trues wr (w.heap.size + 1) s.size) := fun i hi => (hO.cellAt i (by omega)).trans (hX i (by omega))
      have HB := hide hB
      clear hc hO hX hK hB
      go_wp2
      refine bodyPost_ret (v := .agg #[.string s, .slice (some ⟨w.heap.size + 1, 0, none⟩) s.size s.size, .slice none 0 0, .slice none 0 0, .slice none 0 0]) (by simp [results, Try.results10, go_sem, hc0, hc1, hc2, hc3, hc4]) rfl ⟨_, rfl, ?_, ?_⟩
      · exact ((((HT.out.far _ _ _ (by omega)).far _ _ _ (by omega)).far _ _ _ (by omega)).far _ _ _ (by omega)).far _ _ _ (by omega)
      · exact ((((HB.out.setCell (Nat.le_refl _) _).setCell (Nat.le_refl _) _).setCell (Nat.le_refl _) _).setCell (Nat.le_refl _) _).setCell (Nat.le_refl _) _

set_option maxHeartbeats 400000 in
theorem zlit_any (s : ByteArray) (w : World) (hs : s.size ≤ 2097152) :
    Calls Try.prog 6 #[.string s] w fun e w' => ∃ g : Nat, e = .returned (.tuple #[.string s, .slice (some ⟨g, 0, none⟩) s.size s.size, .slice none 0 0, .slice none 0 0, .slice none 0 0]) ∧ Trues w' g s.size ∧ Below w.heap.size w w' := by
  have C10 := hide (lit_any s w hs)
  go_enter Try.func6, Try.ntmps6
  go_wp2_with fail
  refine C10.out.mono ?_
  rintro e w1 ⟨g, rfl, hT, hB⟩
  have HT := hide hT
  have HB := hide hB
  clear hT hB C10
  go_wp2
  go_quiet (fail)
  go_wp2
  refine bodyPost_ret (v := .tuple #[.string s, .slice (some ⟨g, 0, none⟩) s.size s.size, .slice none 0 0, .slice none 0 0, .slice none 0 0]) (by simp [results, Try.results6]) rfl ⟨_, rfl, ?_, ?_⟩
  · exact HT.out.later (below_drewN ((Below.refl _ _).alloc (Nat.le_refl _) _) _)
  · exact below_drewN (HB.out.alloc HB.out.size _) _
end Go.Proofs.Qxb6626003a
