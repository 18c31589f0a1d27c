/-
  THE CONTRACT OF '(*Plan).Marked'.
-/
import Derived.Test.Qxb6630627aBuild
namespace Go.Proofs.Qxb6630627a
open Go.RowKit

/-- The statements marked m, in their order. -/
def flt (L : List (ByteArray × Int)) (m : Int) : List (ByteArray × Int) := L.filter fun p => p.2 == m
/-- The cells of a row of statements. -/
def cellsOf (L : List (ByteArray × Int)) : List Value := L.flatMap fun p => [.string p.1, .int .i64 p.2]

theorem flt_le (L : List (ByteArray × Int)) (m : Int) : (flt L m).length ≤ L.length := List.length_filter_le _ _
theorem cellsOf_length (L : List (ByteArray × Int)) : (cellsOf L).length = L.length * 2 := by
  induction L with
  | nil => rfl
  | cons p L ih => simp [cellsOf] at ih ⊢; omega
theorem cellsOf_append (A B : List (ByteArray × Int)) : cellsOf (A ++ B) = cellsOf A ++ cellsOf B := by simp [cellsOf]
theorem cellsOf_at (L : List (ByteArray × Int)) (i : Nat) (h : i < L.length) : (cellsOf L)[i * 2]? = some (.string L[i].1) ∧ (cellsOf L)[i * 2 + 1]? = some (.int .i64 L[i].2) := by
  induction L generalizing i with
  | nil => simp at h
  | cons p L ih =>
    cases i with
    | zero => exact ⟨rfl, rfl⟩
    | succ i =>
      obtain ⟨h1, h2⟩ := ih i (by simpa using h)
      have e : cellsOf (p :: L) = .string p.1 :: .int .i64 p.2 :: cellsOf L := rfl
      rw [e, show (i + 1) * 2 = i * 2 + 1 + 1 by omega]
      simp only [List.getElem?_cons_succ, List.getElem_cons_succ]
      exact ⟨h1, h2⟩

theorem flt_hit (L : List (ByteArray × Int)) (m : Int) (j : Nat) (h : j < L.length) (hm : (L[j].2 == m) = true) : flt (L.take (j + 1)) m = flt (L.take j) m ++ [L[j]] := by
  unfold flt
  rw [List.take_succ_eq_append_getElem h, List.filter_append]
  simp [hm]
theorem flt_miss (L : List (ByteArray × Int)) (m : Int) (j : Nat) (h : j < L.length) (hm : (L[j].2 == m) = false) : flt (L.take (j + 1)) m = flt (L.take j) m := by
  unfold flt
  rw [List.take_succ_eq_append_getElem h, List.filter_append]
  simp [hm]

/-- A row of statements behind a slice value. -/
def Rowed (B : Nat) (w : World) (v : Value) (L : List (ByteArray × Int)) : Prop :=
  ∃ (ao : Option Addr) (b cap : Nat), v = .slice ao L.length cap ∧ (0 < L.length → ao = some ⟨b, 0, none⟩) ∧ B ≤ b ∧ Stmts w b 0 L

theorem Stmts.later {w w' : World} {b o : Nat} {L : List (ByteArray × Int)} (h : Stmts w b o L) (hb : Below w.heap.size w w') : Stmts w' b o L :=
  fun i hi => ⟨cell_later hb (h i hi).1, cell_later hb (h i hi).2⟩
theorem Rowed.later {B : Nat} {w w' : World} {v : Value} {L : List (ByteArray × Int)} (h : Rowed B w v L) (hb : Below w.heap.size w w') : Rowed B w' v L := by
  obtain ⟨ao, b, cap, h1, h2, h3, h4⟩ := h
  exact ⟨ao, b, cap, h1, h2, h3, h4.later hb⟩
theorem Rowed.setCell {B : Nat} {w : World} {v : Value} {L : List (ByteArray × Int)} (h : Rowed B w v L) (p : Addr) (u : Value) (hp : p.block < B) : Rowed B (w.setCell p u) v L := by
  obtain ⟨ao, b, cap, h1, h2, h3, h4⟩ := h
  refine ⟨ao, b, cap, h1, h2, h3, fun i hi => ?_⟩
  have e : ∀ off, (w.setCell p u).cell? ⟨b, off, none⟩ = w.cell? ⟨b, off, none⟩ := fun off => World.cell?_of_block (Below.heap_setCell w p u b (by omega))
  rw [e, e]
  exact h4 i hi
theorem Rowed.mono {B B' : Nat} {w : World} {v : Value} {L : List (ByteArray × Int)} (h : Rowed B w v L) (hb : B' ≤ B) : Rowed B' w v L := by
  obtain ⟨ao, b, cap, h1, h2, h3, h4⟩ := h
  exact ⟨ao, b, cap, h1, h2, Nat.le_trans hb h3, h4⟩

theorem rowed_of_owns {w : World} {base : Nat} {v : Value} {L : List (ByteArray × Int)} (h : w.ownsRow base 30 2 v L.length (cellsOf L)) : Rowed base w v L := by
  rcases h.2 with ⟨rfl, h0⟩ | ⟨g, cap, cur, rfl, hbg, _, _, _, _, _⟩
  · exact ⟨none, base, 0, by rw [h0], fun h => by omega, Nat.le_refl _, fun i hi => by omega⟩
  · refine ⟨some ⟨g, 0, none⟩, g, cap, rfl, fun _ => rfl, hbg, fun i hi => ?_⟩
    obtain ⟨h1, h2⟩ := cellsOf_at L i hi
    rw [Nat.zero_add, h.cellAt _ (by omega), h.cellAt _ (by omega), h1, h2]
    exact ⟨rfl, rfl⟩

theorem two_new (w : World) (a b : Value) (t : TypeId) {g : Nat} (hg : g = w.heap.size) : ∀ j u, [a, b][j]? = some u → (w.alloc (.cells #[a, b] t)).cell? ((⟨g, 0, none⟩ : Addr).add j) = some u := by
  subst hg
  intro j u hj
  match j, hj with
  | 0, hj => simp at hj; subst hj; simp [Addr.add]
  | 1, hj => simp at hj; subst hj; simp [Addr.add]

set_option maxHeartbeats 400000 in
theorem marked_any (pb : Nat) (ao : Option Addr) (n cap b o : Nat) (L : List (ByteArray × Int)) (m : Int) (w : World) (hn : n ≤ 100000) (hL : n = L.length)
    (hp : w.cell? ⟨pb, 0, none⟩ = some (.slice ao n cap)) (hao : 0 < n → ao = some ⟨b, o, none⟩) (hS : Stmts w b o L) :
    Calls Try.prog 8 #[.pointer (some ⟨pb, 0, none⟩), .int .i64 m] w fun e w' => ∃ v, e = .returned v ∧ Rowed w.heap.size w' v (flt L m) ∧ Below w.heap.size w w' := by
  obtain ⟨i0, hi, hz0, hz1, hz2⟩ := info_parts Try.info30
  have HL := hide hL
  clear hL
  go_enter Try.func8, Try.ntmps8
  go_wp2
  go_loopw [5, 13] (fun v i wr => ∃ j : Nat, j ≤ n ∧ i = .int .i64 j ∧ wr.ownsRow w.heap.size 30 2 v (flt (L.take j) m).length (cellsOf (flt (L.take j) m)) ∧ Below w.heap.size w wr) (fun _ i _ => n - (intOf i).toNat)
  case atStart => exact ⟨0, Nat.zero_le _, rfl, World.ownsRow_nil _ _ _ _, Below.refl _ _⟩
  case round =>
    obtain ⟨j, hj, rfl, hO, hB⟩ := hrel
    by_cases hlt : j < n
    · have hjL : j < L.length := by rw [← HL.out]; exact hlt
      obtain ⟨c1, c2⟩ := hS j hjL
      replace c1 := cell_later hB c1
      replace c2 := cell_later hB c2
      obtain rfl := hao (by omega)
      have hl1 : (flt (L.take j) m).length ≤ j := Nat.le_trans (flt_le _ _) (by simp; omega)
      generalize hs : L[j].1 = s at c1
      generalize hq : L[j].2 = q at c2
      have HS := hide hs
      have HQ := hide hq
      have HO := hide hO
      have HB := hide hB
      have HSt := hide hS
      clear hs hq hO hB hS hp hao
      by_cases hm : (q == m) = true
      · go_wp2_with (at_builtin; refine wpList_append_own _ rfl (.tmp 21) (.tmp 23) 26 rfl w.heap.size 30 i0 _ 2 24 Try.underlying26 hi hz0 hz1 hz2 rfl (by decide) _ _ _ rfl ((HO.out.alloc _).alloc _) ⟨wr.heap.size + 1, 0, none⟩ 1 1 [.string s, .int .i64 q] rfl rfl ?c1 ?c2 ?c3 ?c4 ?c5 ?_)
        case c1 => exact two_new (wr.alloc _) _ _ _ (by simp)
        case c2 => intro u hu; simp at hu; rcases hu with rfl | rfl <;> rfl
        case c3 => simp only [maxLen]; omega
        case c4 => omega
        case c5 => have := HB.out.size; simp; omega
        intro v' w1 hown' hgrow _
        have HO' := hide hown'
        have hB1 : Below w.heap.size w w1 := ((HB.out.alloc HB.out.size _).alloc (Nat.le_trans HB.out.size (by simp)) _).grown hgrow (Nat.le_trans HB.out.size (by simp; omega)) (fun k hk => (HO.out.lt k hk).1)
        have HB1 := hide hB1
        clear hown' hgrow hB1
        go_wp2
        go_roundw
        case rel =>
          refine ⟨j + 1, by omega, by go_num, ?_, HB1.out⟩
          rw [flt_hit L m j hjL (by rw [HQ.out]; exact hm), cellsOf_append]
          have e : cellsOf [L[j]] = [.string s, .int .i64 q] := by simp [cellsOf, HS.out, HQ.out]
          rw [e, List.length_append]
          exact HO'.out
        case measure => simp [intOf]; omega
      · have hm' : (q == m) = false := by simpa using hm
        clear hm
        go_wp2
        go_roundw
        case rel =>
          refine ⟨j + 1, by omega, by go_num, ?_, HB.out.alloc HB.out.size _⟩
          rw [flt_miss L m j hjL (by rw [HQ.out]; exact hm')]
          exact HO.out.alloc _
        case measure => simp [intOf]; omega
    · have hjn : L.take j = L := List.take_of_length_le (by have := HL.out; omega)
      have hR : Rowed w.heap.size wr u5 (flt L m) := by
        rw [hjn] at hO
        exact rowed_of_owns hO
      have HR := hide hR
      have HB := hide hB
      clear hO hB hjn hR hS hp hao
      go_wp2
      go_ret
      exact ⟨_, rfl, HR.out, HB.out⟩
end Go.Proofs.Qxb6630627a
