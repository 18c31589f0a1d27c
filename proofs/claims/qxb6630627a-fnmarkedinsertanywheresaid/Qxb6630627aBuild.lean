/-
  THE CONTRACT OF 'buildStatements'.
-/
import Derived.Test.Qxb6630627aSizes
import Derived.BigQuiet
import Derived.Deep.RegionWith
namespace Go.Proofs.Qxb6630627a
open Go.RowKit

theorem Try.info30 : (Try.prog.info? 30).map (fun i => (i.zero, i.size, i.bytes)) = some (some (.agg #[.string ⟨#[]⟩, .int .i64 0]), 2, 24) := by kernel_rfl

/-- Statement i lies in the two cells at o + i * 2. -/
def Stmts (w : World) (b o : Nat) (L : List (ByteArray × Int)) : Prop :=
  ∀ i (h : i < L.length), w.cell? ⟨b, o + i * 2, none⟩ = some (.string L[i].1) ∧ w.cell? ⟨b, o + i * 2 + 1, none⟩ = some (.int .i64 L[i].2)

/-- Statement i is (ss[i], ms[i]). -/
def stm (ss : List ByteArray) (ms : List Int) (n : Nat) : List (ByteArray × Int) := (List.range n).map fun i => (ss.getD i ByteArray.empty, ms.getD i 0)

theorem set_two (xs : List Value) (j n : Nat) (a b : Value) (ss : List ByteArray) (ms : List Int) (hl : xs.length = n * 2) (hj : j < n)
    (ha : a = .string (ss.getD j ByteArray.empty)) (hb : b = .int .i64 (ms.getD j 0))
    (h : ∀ t, t < j → xs[t * 2]? = some (.string (ss.getD t ByteArray.empty)) ∧ xs[t * 2 + 1]? = some (.int .i64 (ms.getD t 0))) :
    ∀ t, t < j + 1 → ((xs.set (j * 2) a).set (j * 2 + 1) b)[t * 2]? = some (.string (ss.getD t ByteArray.empty)) ∧ ((xs.set (j * 2) a).set (j * 2 + 1) b)[t * 2 + 1]? = some (.int .i64 (ms.getD t 0)) := by
  intro t ht
  by_cases e : t = j
  · subst e
    rw [List.getElem?_set_ne (by omega), List.getElem?_set_self (by omega), List.getElem?_set_self (by simp; omega), ha, hb]
    exact ⟨rfl, rfl⟩
  · obtain ⟨h1, h2⟩ := h t (by omega)
    rw [List.getElem?_set_ne (by omega), List.getElem?_set_ne (by omega), List.getElem?_set_ne (by omega), List.getElem?_set_ne (by omega), h1, h2]
    exact ⟨rfl, rfl⟩

set_option maxHeartbeats 400000 in
theorem build_any (sa : Option Addr) (n sc : Nat) (ma : Option Addr) (mc : Nat) (sb so mb mo : Nat) (ss : List ByteArray) (ms : List Int) (w : World) (hn : n ≤ 65536)
    (hsa : 0 < n → sa = some ⟨sb, so, none⟩) (hs : ∀ i, i < n → w.cell? ⟨sb, so + i, none⟩ = some (.string (ss.getD i ByteArray.empty)))
    (hma : 0 < n → ma = some ⟨mb, mo, none⟩) (hm : ∀ i, i < n → w.cell? ⟨mb, mo + i, none⟩ = some (.int .i64 (ms.getD i 0))) :
    Calls Try.prog 7 #[.slice sa n sc, .slice ma n mc] w fun e w' => e = .returned (.slice (some ⟨w.heap.size, 0, none⟩) n n) ∧ Stmts w' w.heap.size 0 (stm ss ms n) ∧ Below w.heap.size w w' := by
  obtain ⟨i0, hi, hz0, hz1, hz2⟩ := info_parts Try.info30
  go_enter Try.func7, Try.ntmps7
  go_wp2_with (at_make; refine wpList_make_full _ rfl _ _ 26 rfl w.heap.size 30 i0 _ 2 Try.underlying26 hi hz0 hz1 _ _ _ _ n rfl rfl rfl rfl (by rw [hz2]; omega) (by simp only [maxLen]; omega) (Nat.le_refl _) ?_; intro w1 hown hgrow)
  have hb1 : Below w.heap.size w w1 := (Below.refl _ _).grown hgrow (Nat.le_refl _) (fun k h => by cases h)
  clear hgrow
  go_loopw [6] (fun i wr => ∃ (j : Nat) (xs : List Value), j ≤ n ∧ i = .int .i64 j ∧ wr.ownsRow w.heap.size 30 2 (.slice (some ⟨w.heap.size, 0, none⟩) n n) n xs ∧
      (∀ t, t < j → xs[t * 2]? = some (.string (ss.getD t ByteArray.empty)) ∧ xs[t * 2 + 1]? = some (.int .i64 (ms.getD t 0))) ∧ Below w.heap.size w wr) (fun i _ => n - (intOf i).toNat)
  case atStart => exact ⟨0, _, Nat.zero_le _, rfl, hown, fun t h => by omega, hb1⟩
  case round =>
    obtain ⟨j, xs, hj, rfl, hO, hX, hB⟩ := hrel
    clear hown hb1
    by_cases hlt : j < n
    · have hcs : wr.cell? ⟨sb, so + j, none⟩ = some (.string (ss.getD j ByteArray.empty)) := cell_later hB (hs j hlt)
      have hcm : wr.cell? ⟨mb, mo + j, none⟩ = some (.int .i64 (ms.getD j 0)) := cell_later hB (hm j hlt)
      obtain rfl := hsa (by omega)
      obtain rfl := hma (by omega)
      have hxl : xs.length = n * 2 := hO.1
      obtain ⟨u0, hu0⟩ : ∃ u, xs[j * 2]? = some u := ⟨_, List.getElem?_eq_getElem (by omega)⟩
      obtain ⟨u1, hu1⟩ : ∃ u, xs[j * 2 + 1]? = some u := ⟨_, List.getElem?_eq_getElem (by omega)⟩
      have hc0 : wr.cell? ⟨w.heap.size, j * 2, none⟩ = some u0 := by rw [hO.cellAt _ (by omega), hu0]
      have hc1 : wr.cell? ⟨w.heap.size, j * 2 + 1, none⟩ = some u1 := by rw [hO.cellAt _ (by omega), hu1]
      have hf0 := hO.frozenAt (j * 2)
      have hf1 := hO.frozenAt (j * 2 + 1)
      clear hu0 hu1
      have HXL := hide hxl
      clear hxl
      have HO := hide hO
      have HX := hide hX
      have HB := hide hB
      clear hs hsa hma hm hO hX hB
      go_wp2
      go_region
      go_wp2
      go_roundw
      case rel =>
        have s1 := (HO.out.stored (j * 2) (.string (ss[j]?.getD ByteArray.empty))).1
        have s2 := (s1.stored (j * 2 + 1) (.int .i64 (ms[j]?.getD 0))).1
        exact ⟨j + 1, _, by omega, by go_num, s2.drew, set_two xs j n _ _ ss ms HXL.out hlt (by simp) (by simp) HX.out, ((HB.out.setCell (Nat.le_refl _) _).setCell (Nat.le_refl _) _).drew⟩
      case measure => simp [intOf]; omega
    · have hjn : j = n := by omega
      have HO := hide hO
      have HX := hide hX
      have HB := hide hB
      have HJ := hide hjn
      clear hs hsa hma hm hO hX hB hjn
      go_wp2
      go_ret
      refine ⟨rfl, ?_, HB.out⟩
      intro t ht
      have ht' : t < n := by simpa [stm] using ht
      obtain ⟨x1, x2⟩ := HX.out t (by have := HJ.out; omega)
      rw [Nat.zero_add, HO.out.cellAt _ (by omega), HO.out.cellAt _ (by omega), x1, x2]
      simp [stm]
end Go.Proofs.Qxb6630627a
