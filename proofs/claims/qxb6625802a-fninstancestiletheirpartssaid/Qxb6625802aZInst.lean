/-
  THE CONTRACT OF 'ZZinstance' (function 8).
-/
import Derived.Test.Qxb6625802aInst
namespace Go.Proofs.Qxb6625802a
open Go.RowKit

theorem Try.info21 : (Try.prog.info? 21).map (fun i => (i.zero, i.size, i.bytes)) = some (some (.int .i32 0), 1, 4) := by kernel_rfl
theorem getD_drop (zs : List Int) (p i : Nat) : (zs.drop p).getD i 0 = zs.getD (p + i) 0 := by
  simp [List.getD]

set_option maxRecDepth 100000 in
set_option maxHeartbeats 2000000 in
theorem zinst_core (xb pb p cb q l1 l2 c1 c2 : Nat) (k : Int) (y0 y1 y2 : List Int) (w : World) (hl1 : l1 ≤ 65536) (hl2 : l2 ≤ 65536)
    (C13 : Hid (Calls Try.prog 13 #[.pointer (some ⟨xb, 0, none⟩), .int .i32 k] w fun en w' => ∃ a1 a2 : Option Addr, en = .returned (.tuple #[.slice a1 l1 c1, .slice a2 l2 c2]) ∧ (0 < l1 → a1 = some ⟨pb, p, none⟩) ∧ (0 < l2 → a2 = some ⟨cb, q, none⟩) ∧ ∃ r, w' = w.drewN r))
    (HI : Hid (∀ i, i < l1 → w.cell? ⟨pb, p + i, none⟩ = some (.int .i32 (y0.getD i 0))))
    (HC : Hid (∀ i, i < l2 → w.cell? ⟨cb, q + i * 2, none⟩ = some (.int .i32 (y1.getD i 0)) ∧ w.cell? ⟨cb, q + i * 2 + 1, none⟩ = some (.int .i32 (y2.getD i 0)))) :
    Calls Try.prog 8 #[.pointer (some ⟨xb, 0, none⟩), .int .i32 k] w fun en w' => ∃ g1 g2 g3 : Nat,
      en = .returned (.tuple #[.slice (some ⟨g1, 0, none⟩) l1 l1, .slice (some ⟨g2, 0, none⟩) l2 l2, .slice (some ⟨g3, 0, none⟩) l2 l2]) ∧
        (w.heap.size ≤ g1 ∧ w.heap.size ≤ g2 ∧ w.heap.size ≤ g3) ∧ Ints w' g1 0 y0 l1 ∧ Ints w' g2 0 y1 l2 ∧ Ints w' g3 0 y2 l2 ∧ Below w.heap.size w w' := by
  obtain ⟨i21, p1, p2, p3, p4⟩ := info_parts Try.info21
  go_enter Try.func8, Try.ntmps8
  go_wp2_with fail
  refine C13.out.mono ?_
  rintro en w' ⟨a1, a2, rfl, ha1, ha2, r, hw'⟩
  have hB : Below w.heap.size w w' := by rw [hw']; exact below_drewN (Below.refl _ _) _
  have HA1 := hide ha1
  have HA2 := hide ha2
  have HB := hide hB
  clear hw' hB ha1 ha2 C13
  go_wp2_with (at_make; refine wpList_make_full _ rfl _ _ 22 rfl w'.heap.size 21 i21 _ 1 Try.underlying22 p1 p2 p3 _ _ _ _ l1 rfl rfl rfl rfl (by rw [p4]; omega) (by simp only [maxLen]; omega) (Nat.le_refl _) ?_; intro w2 hown hgrow)
  have HP0 : Hid (Part w2 w'.heap.size 21 w'.heap.size l1 y0 0) := ⟨_, hown, fun t h => by omega⟩
  have HB2 := hide (HB.out.trans ((Below.of_grown hgrow).mono HB.out.size))
  have hgl := HB.out.size
  clear hown hgrow HB
  generalize hg1 : w'.heap.size = g1 at *
  clear hg1
  go_loopw [10] (fun i wr => ∃ j : Nat, j ≤ l1 ∧ i = .int .i64 j ∧ Part wr g1 21 g1 l1 y0 j ∧ Below w.heap.size w wr) (fun i _ => l1 - (intOf i).toNat)
  case atStart => exact ⟨0, Nat.zero_le _, rfl, HP0.out, HB2.out⟩
  case round =>
    obtain ⟨j, hj, rfl, hP, hB⟩ := hrel
    clear HP0 HB2
    by_cases hlt : j < l1
    · have hc := cell_later hB (HI.out j hlt)
      obtain rfl := HA1.out (by omega)
      obtain ⟨⟨u, hu⟩, hfu⟩ := hP.at j hlt
      have hst := hP.step hlt
      generalize y0.getD j 0 = z at hc hst
      have HST := hide hst
      have HB := hide hB
      clear hst hB hP
      go_wp2
      go_roundw
      case rel => exact ⟨j + 1, by omega, by go_num, HST.out, HB.out.setCell (by simp; omega) _⟩
      case measure => simp [intOf]; omega
    · have hjn : j = l1 := by omega
      subst hjn
      obtain ⟨w3, e3⟩ : ∃ w3, w3 = wr := ⟨_, rfl⟩
      subst e3
      have hgl3 := hP.lt
      have HI3 := hide hP.ints
      have HB3 := hide hB
      have hbs := hB.size
      clear hP hB hlt hj
      go_wp2_with (first | (at_make; refine wpList_make_full _ rfl (.tmp 37) _ 22 rfl w3.heap.size 21 i21 _ 1 Try.underlying22 p1 p2 p3 _ _ _ _ l2 rfl rfl rfl rfl (by rw [p4]; omega) (by simp only [maxLen]; omega) (Nat.le_refl _) ?_; intro w4 hown4 hgrow4) | (at_make; refine wpList_make_full _ rfl (.tmp 40) _ 22 rfl w3.heap.size 21 i21 _ 1 Try.underlying22 p1 p2 p3 _ _ _ _ l2 rfl rfl rfl rfl (by rw [p4]; omega) (by simp only [maxLen]; omega) hgrow4.size ?_; intro w5 hown5 hgrow5))
      have hg23 : w3.heap.size < w4.heap.size := (hown4.lt _ rfl).2
      have HP2 : Hid (Part w5 w3.heap.size 21 w3.heap.size l2 y1 0) := ⟨_, hown4.kept hgrow5 (.inr (by simp [Value.ownBlock])), fun t h => by omega⟩
      have HP3 : Hid (Part w5 w3.heap.size 21 w4.heap.size l2 y2 0) := ⟨_, hown5, fun t h => by omega⟩
      have hB5 := (Below.of_grown hgrow4).trans ((Below.of_grown hgrow5).mono hgrow4.size)
      have HI5 := hide (HI3.out.later hB5)
      have HB5 := hide (HB3.out.trans (hB5.mono HB3.out.size))
      have hcb : ∀ i, i < l2 → cb < w.heap.size := fun i hi => World.block_lt_of_cell? _ _ (HC.out i hi).1
      have HCB := hide hcb
      clear hown4 hown5 hgrow4 hgrow5 hB5 HI3 HB3 hcb
      generalize hg2 : w3.heap.size = g2 at *
      generalize hg3 : w4.heap.size = g3 at *
      clear hg2 hg3
      go_loopw [13] (fun i wr => ∃ t : Nat, t ≤ l2 ∧ i = .int .i64 t ∧ Part wr g2 21 g2 l2 y1 t ∧ Part wr g2 21 g3 l2 y2 t ∧ Ints wr g1 0 y0 j ∧ Below w.heap.size w wr) (fun i _ => l2 - (intOf i).toNat)
      case atStart => exact ⟨0, Nat.zero_le _, rfl, HP2.out, HP3.out, HI5.out, HB5.out⟩
      case round =>
        obtain ⟨t, ht, rfl, hP, hP', hI, hB⟩ := hrel
        clear HP2 HP3 HI5 HB5
        by_cases hlt : t < l2
        · have hc1 := cell_later hB (HC.out t hlt).1
          have hc2 := cell_later hB (HC.out t hlt).2
          have hcl := HCB.out t hlt
          obtain rfl := HA2.out (by omega)
          obtain ⟨⟨u, hu⟩, hfu⟩ := hP.at t hlt
          obtain ⟨⟨v, hv⟩, hfv⟩ := hP'.at t hlt
          have hst := hP.step hlt
          have hst' := fun x => (hP'.far g2 t x (by omega)).step hlt
          generalize y1.getD t 0 = z at hc1 hst
          generalize y2.getD t 0 = y at hc2 hst'
          have hne1 : ¬ g2 = cb := by omega
          have hne2 : ¬ cb = g2 := by omega
          have hne3 : ¬ g2 = g3 := by omega
          have hne4 : ¬ g3 = g2 := by omega
          have HST := hide (hst.far g3 t (.int .i32 y) (by omega))
          have HST' := hide (hst' (.int .i32 z))
          have HB := hide hB
          have HII := hide hI
          clear hst hst' hB hP hP' hI
          go_wp2
          go_roundw
          case rel => exact ⟨t + 1, by omega, by go_num, HST.out, HST'.out, (HII.out.far _ _ _ (by omega)).far _ _ _ (by omega), (HB.out.setCell (by simp; omega) _).setCell (by simp; omega) _⟩
          case measure => simp [intOf]; omega
        · have htn : t = l2 := by omega
          subst htn
          have H1 := hide hP.ints
          have H2 := hide hP'.ints
          have HB := hide hB
          have HII := hide hI
          clear hP hP' hB hI
          go_wp2
          go_ret3
          exact ⟨_, _, _, rfl, ⟨hgl, hbs, by omega⟩, HII.out, H1.out, H2.out, HB.out⟩

theorem zinst_any (xb pb cb eb n0 n1 n3 k p q e f : Nat) (z0 z1 z2 z3 z4 : List Int) (w : World) (hn0 : n0 ≤ 65536) (hn1 : n1 ≤ 65536) (hn3 : n3 ≤ 65536) (hk : k < n3) (hp : prev z3 k = p) (hq : prev z4 k = q) (he : z3.getD k 0 = e) (hf : z4.getD k 0 = f) (hpe : p ≤ e) (hen : e ≤ n0) (hqf : q ≤ f) (hfn : f ≤ n1)
    (hX : XB w xb (.slice (some ⟨pb, 0, none⟩) n0 n0) (.slice (some ⟨eb, 0, none⟩) n3 n3) (.slice (some ⟨cb, 0, none⟩) n1 n1)) (hE : Pairs w eb 0 z3 z4 n3) (hI : Ints w pb 0 z0 n0) (hC : Pairs w cb 0 z1 z2 n1) :
    Calls Try.prog 8 #[.pointer (some ⟨xb, 0, none⟩), .int .i32 (k : Int)] w fun en w' => ∃ g1 g2 g3 : Nat,
      en = .returned (.tuple #[.slice (some ⟨g1, 0, none⟩) (e - p) (e - p), .slice (some ⟨g2, 0, none⟩) (f - q) (f - q), .slice (some ⟨g3, 0, none⟩) (f - q) (f - q)]) ∧
        (w.heap.size ≤ g1 ∧ w.heap.size ≤ g2 ∧ w.heap.size ≤ g3) ∧ Ints w' g1 0 (z0.drop p) (e - p) ∧ Ints w' g2 0 (z1.drop q) (f - q) ∧ Ints w' g3 0 (z2.drop q) (f - q) ∧ Below w.heap.size w w' := by
  refine zinst_core xb pb p cb (q * 2) (e - p) (f - q) (n0 - p) (n1 - q) k _ _ _ w (by omega) (by omega) (inst_any xb pb cb eb n0 n1 n3 k p q e f z3 z4 w hn3 hk hp hq he hf hpe hen hqf hfn hX hE) ?_ ?_
  · intro i hi
    rw [getD_drop, ← hI (p + i) (by omega), Nat.zero_add]
  · intro i hi
    have := hC (q + i) (by omega)
    rw [getD_drop, getD_drop, ← this.1, ← this.2, Nat.zero_add, Nat.add_mul]
    exact ⟨rfl, rfl⟩
end Go.Proofs.Qxb6625802a
