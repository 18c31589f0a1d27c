/-
  THE CONTRACT OF 'ZZnewGathered' (function 7).
-/
import Derived.Test.Qxb6625802aMem
import Derived.Deep.RegionWith
namespace Go.Proofs.Qxb6625802a
open Go.RowKit

theorem Try.info35 : (Try.prog.info? 35).map (fun i => (i.zero, i.size, i.bytes)) = some (some (.int .i32 0), 1, 4) := by kernel_rfl
theorem Try.info44 : (Try.prog.info? 44).map (fun i => (i.zero, i.size, i.bytes)) = some (some (.agg #[.int .i32 0, .int .i32 0]), 2, 8) := by kernel_rfl
theorem Try.info46 : (Try.prog.info? 46).map (fun i => (i.zero, i.size, i.bytes)) = some (some (.agg #[.int .i32 0, .int .i32 0]), 2, 8) := by kernel_rfl

set_option maxRecDepth 100000 in
set_option maxHeartbeats 2000000 in
theorem new_any (a0 a1 a2 a3 a4 : Option Addr) (n0 n1 n3 c0 c1 c2 c3 c4 b0 o0 b1 o1 b2 o2 b3 o3 b4 o4 : Nat) (z0 z1 z2 z3 z4 : List Int) (w : World) (hn0 : n0 ≤ 65536) (hn1 : n1 ≤ 65536) (hn3 : n3 ≤ 65536)
    (ha0 : 0 < n0 → a0 = some ⟨b0, o0, none⟩) (ha1 : 0 < n1 → a1 = some ⟨b1, o1, none⟩) (ha2 : 0 < n1 → a2 = some ⟨b2, o2, none⟩) (ha3 : 0 < n3 → a3 = some ⟨b3, o3, none⟩) (ha4 : 0 < n3 → a4 = some ⟨b4, o4, none⟩)
    (h0 : Ints w b0 o0 z0 n0) (h1 : Ints w b1 o1 z1 n1) (h2 : Ints w b2 o2 z2 n1) (h3 : Ints w b3 o3 z3 n3) (h4 : Ints w b4 o4 z4 n3) :
    Calls Try.prog 7 #[.slice a0 n0 c0, .slice a1 n1 c1, .slice a2 n1 c2, .slice a3 n3 c3, .slice a4 n3 c4] w fun e w' =>
      ∃ xb pb cb eb : Nat, e = .returned (.pointer (some ⟨xb, 0, none⟩)) ∧ XB w' xb (.slice (some ⟨pb, 0, none⟩) n0 n0) (.slice (some ⟨eb, 0, none⟩) n3 n3) (.slice (some ⟨cb, 0, none⟩) n1 n1) ∧
        Ints w' pb 0 z0 n0 ∧ Pairs w' cb 0 z1 z2 n1 ∧ Pairs w' eb 0 z3 z4 n3 ∧ Below w.heap.size w w' := by
  obtain ⟨i35, p1, p2, p3, p4⟩ := info_parts Try.info35
  obtain ⟨i44, q1, q2, q3, q4⟩ := info_parts Try.info44
  obtain ⟨i46, r1, r2, r3, r4⟩ := info_parts Try.info46
  have HA := hide (And.intro ha0 (And.intro ha1 (And.intro ha2 (And.intro ha3 ha4))))
  have HI := hide (And.intro h0 (And.intro h1 (And.intro h2 (And.intro h3 h4))))
  clear ha0 ha1 ha2 ha3 ha4 h0 h1 h2 h3 h4
  have HX0 : Hid (XB (w.alloc (.cells #[.slice none 0 0, .slice none 0 0, .slice none 0 0, .slice none 0 0, .slice none 0 0, .slice none 0 0, .int .i32 0, .int .i32 0, .int .i32 0, .bool false, .map none, .map none, .slice none 0 0] 42)) w.heap.size (.slice none 0 0) (.slice none 0 0) (.slice none 0 0)) :=
    ⟨by simp, by simp, by simp, fun i => by simp⟩
  have HB0 : Hid (Below w.heap.size w (w.alloc (.cells #[.slice none 0 0, .slice none 0 0, .slice none 0 0, .slice none 0 0, .slice none 0 0, .slice none 0 0, .int .i32 0, .int .i32 0, .int .i32 0, .bool false, .map none, .map none, .slice none 0 0] 42))) :=
    (Below.refl _ _).alloc (Nat.le_refl _) _
  go_enter Try.func7, Try.ntmps7
  go_wp2_with (at_make; refine wpList_make_full _ rfl _ _ 32 rfl (w.heap.size + 1) 35 i35 _ 1 Try.underlying32 p1 p2 p3 _ _ _ _ n0 rfl rfl rfl rfl (by rw [p4]; omega) (by simp only [maxLen]; omega) (by simp) ?_; intro w2 hown hgrow; have hx := HX0.out.grown hgrow; have hx2 := hx.1; have hxf := hx.2.2.2 2; have HX := hide hx; have HB2 := hide (HB0.out.trans ((Below.of_grown hgrow).mono (by simp))); clear hx hgrow HX0 HB0)
  rw [World.size_alloc] at hown
  have HP0 : Hid (Part (w2.setCell ⟨w.heap.size, 2, none⟩ (.slice (some ⟨w.heap.size + 1, 0, none⟩) n0 n0)) (w.heap.size + 1) 35 (w.heap.size + 1) n0 z0 0) := ⟨_, owns_far hown _ _ _ (by omega), fun t h => by omega⟩
  have HX1 := hide (HX.out.put2 (.slice (some ⟨w.heap.size + 1, 0, none⟩) n0 n0))
  have HB1 := hide (HB2.out.setCell (p := ⟨w.heap.size, 2, none⟩) (Nat.le_refl _) (.slice (some ⟨w.heap.size + 1, 0, none⟩) n0 n0))
  clear hown hx2 hxf HX HB2
  go_loopw [12] (fun i wr => ∃ j : Nat, j ≤ n0 ∧ i = .int .i64 j ∧ Part wr (w.heap.size + 1) 35 (w.heap.size + 1) n0 z0 j ∧ XB wr w.heap.size (.slice (some ⟨w.heap.size + 1, 0, none⟩) n0 n0) (.slice none 0 0) (.slice none 0 0) ∧ Below w.heap.size w wr) (fun i _ => n0 - (intOf i).toNat)
  case atStart => exact ⟨0, Nat.zero_le _, rfl, HP0.out, HX1.out, HB1.out⟩
  case round =>
    obtain ⟨j, hj, rfl, hP, hX, hB⟩ := hrel
    clear HP0 HX1 HB1
    by_cases hlt : j < n0
    · have hc := cell_later hB (HI.out.1 j hlt)
      obtain rfl := HA.out.1 (by omega)
      obtain ⟨⟨u, hu⟩, hfu⟩ := hP.at j hlt
      have hst := hP.step hlt
      have hx2 := hX.1
      generalize z0.getD j 0 = z at hc hst
      have HST := hide hst
      have HX := hide hX
      have HB := hide hB
      clear hst hX hB hP
      go_wp2
      go_region
      go_wp2
      go_roundw
      case rel => exact ⟨j + 1, by omega, by go_num, HST.out, (HX.out.far _ _ _ (by omega)).drew, (HB.out.setCell (by simp) _).drew⟩
      case measure => simp [intOf]; omega
    · have hjn : j = n0 := by omega
      subst hjn
      obtain ⟨w3, e3⟩ : ∃ w3, w3 = wr := ⟨_, rfl⟩
      subst e3
      have hpl := hP.lt
      have HI3 := hide hP.ints
      have hx12 := hX.2.2.1
      have HX3 := hide hX
      have HB3 := hide hB
      clear hP hX hB hlt hj
      go_wp2_with (at_make; refine wpList_make_full _ rfl _ _ 40 rfl w3.heap.size 44 i44 _ 2 Try.underlying40 q1 q2 q3 _ _ _ _ n1 rfl rfl rfl rfl (by rw [q4]; omega) (by simp only [maxLen]; omega) (Nat.le_refl _) ?_; intro w4 hown hgrow; clear hx12; have hx := HX3.out.grown hgrow; have hx12 := hx.2.2.1; have hxf := hx.2.2.2 12; have HX := hide hx; have HB4 := hide (HB3.out.trans ((Below.of_grown hgrow).mono HB3.out.size)); have HI4 := hide (HI3.out.later (Below.of_grown hgrow)); clear hx hgrow HX3 HB3 HI3)
      have HP4 : Hid (Part2 (w4.setCell ⟨w.heap.size, 12, none⟩ (.slice (some ⟨w3.heap.size, 0, none⟩) n1 n1)) w3.heap.size 44 w3.heap.size n1 z1 z2 0) := ⟨_, owns_far hown _ _ _ (by omega), fun t h => by omega⟩
      have HX5 := hide (HX.out.put12 (.slice (some ⟨w3.heap.size, 0, none⟩) n1 n1))
      have HB5 := hide (HB4.out.setCell (p := ⟨w.heap.size, 12, none⟩) (Nat.le_refl _) (.slice (some ⟨w3.heap.size, 0, none⟩) n1 n1))
      have HI5 := hide (HI4.out.far w.heap.size 12 (.slice (some ⟨w3.heap.size, 0, none⟩) n1 n1) (by omega))
      clear hown hx12 hxf HX HB4 HI4
      generalize hcb : w3.heap.size = cb at *
      clear hcb
      go_loopw [13] (fun i wr => ∃ t : Nat, t ≤ n1 ∧ i = .int .i64 t ∧ Part2 wr cb 44 cb n1 z1 z2 t ∧ XB wr w.heap.size (.slice (some ⟨w.heap.size + 1, 0, none⟩) j j) (.slice none 0 0) (.slice (some ⟨cb, 0, none⟩) n1 n1) ∧ Ints wr (w.heap.size + 1) 0 z0 j ∧ Below w.heap.size w wr) (fun i _ => n1 - (intOf i).toNat)
      case atStart => exact ⟨0, Nat.zero_le _, rfl, HP4.out, HX5.out, HI5.out, HB5.out⟩
      case round =>
        obtain ⟨t, ht, rfl, hP, hX, hI, hB⟩ := hrel
        clear HP4 HX5 HI5 HB5
        by_cases hlt : t < n1
        · have hc1 := cell_later hB (HI.out.2.1 t hlt)
          have hc2 := cell_later hB (HI.out.2.2.1 t hlt)
          obtain rfl := HA.out.2.1 (by omega)
          obtain rfl := HA.out.2.2.1 (by omega)
          obtain ⟨⟨u, hu⟩, ⟨v, hv⟩, hfu, hfv⟩ := hP.at t hlt
          have hst := hP.step hlt
          have hx2 := hX.2.2.1
          generalize z1.getD t 0 = z at hc1 hst
          generalize z2.getD t 0 = y at hc2 hst
          have HST := hide hst
          have HX := hide hX
          have HB := hide hB
          have HII := hide hI
          clear hst hX hB hP hI
          go_wp2
          go_region
          go_wp2
          go_roundw
          case rel => exact ⟨t + 1, by omega, by go_num, HST.out, ((HX.out.far _ _ _ (by omega)).far _ _ _ (by omega)).drew, (HII.out.far _ _ _ (by omega)).far _ _ _ (by omega), ((HB.out.setCell (by simp; omega) _).setCell (by simp; omega) _).drew⟩
          case measure => simp [intOf]; omega
        · have htn : t = n1 := by omega
          subst htn
          obtain ⟨w5, e5⟩ : ∃ w5, w5 = wr := ⟨_, rfl⟩
          subst e5
          have hcl := hP.lt
          have HC5 := hide hP.pairs
          have hx3 := hX.2.1
          have HX5 := hide hX
          have HB5 := hide hB
          have HI5 := hide hI
          clear hP hX hB hlt ht hI
          go_wp2_with (at_make; refine wpList_make_full _ rfl _ _ 33 rfl w5.heap.size 46 i46 _ 2 Try.underlying33 r1 r2 r3 _ _ _ _ n3 rfl rfl rfl rfl (by rw [r4]; omega) (by simp only [maxLen]; omega) (Nat.le_refl _) ?_; intro w6 hown hgrow; clear hx3; have hx := HX5.out.grown hgrow; have hx3 := hx.2.1; have hxf := hx.2.2.2 3; have HX := hide hx; have HB6 := hide (HB5.out.trans ((Below.of_grown hgrow).mono HB5.out.size)); have HI6 := hide (HI5.out.later (Below.of_grown hgrow)); have HC6 := hide (HC5.out.later (Below.of_grown hgrow)); clear hx hgrow HX5 HB5 HI5 HC5)
          have HP6 : Hid (Part2 (w6.setCell ⟨w.heap.size, 3, none⟩ (.slice (some ⟨w5.heap.size, 0, none⟩) n3 n3)) w5.heap.size 46 w5.heap.size n3 z3 z4 0) := ⟨_, owns_far hown _ _ _ (by omega), fun t h => by omega⟩
          have HX7 := hide (HX.out.put3 (.slice (some ⟨w5.heap.size, 0, none⟩) n3 n3))
          have HB7 := hide (HB6.out.setCell (p := ⟨w.heap.size, 3, none⟩) (Nat.le_refl _) (.slice (some ⟨w5.heap.size, 0, none⟩) n3 n3))
          have HI7 := hide (HI6.out.far w.heap.size 3 (.slice (some ⟨w5.heap.size, 0, none⟩) n3 n3) (by omega))
          have HC7 := hide (HC6.out.far w.heap.size 3 (.slice (some ⟨w5.heap.size, 0, none⟩) n3 n3) (by omega))
          clear hown hx3 hxf HX HB6 HI6 HC6
          generalize heb : w5.heap.size = eb at *
          clear heb
          go_loopw [14] (fun i wr => ∃ s : Nat, s ≤ n3 ∧ i = .int .i64 s ∧ Part2 wr eb 46 eb n3 z3 z4 s ∧ XB wr w.heap.size (.slice (some ⟨w.heap.size + 1, 0, none⟩) j j) (.slice (some ⟨eb, 0, none⟩) n3 n3) (.slice (some ⟨cb, 0, none⟩) t t) ∧ Ints wr (w.heap.size + 1) 0 z0 j ∧ Pairs wr cb 0 z1 z2 t ∧ Below w.heap.size w wr) (fun i _ => n3 - (intOf i).toNat)
          case atStart => exact ⟨0, Nat.zero_le _, rfl, HP6.out, HX7.out, HI7.out, HC7.out, HB7.out⟩
          case round =>
            obtain ⟨s, hs, rfl, hP, hX, hI, hC, hB⟩ := hrel
            clear HP6 HX7 HI7 HC7 HB7
            by_cases hlt : s < n3
            · have hc1 := cell_later hB (HI.out.2.2.2.1 s hlt)
              have hc2 := cell_later hB (HI.out.2.2.2.2 s hlt)
              obtain rfl := HA.out.2.2.2.1 (by omega)
              obtain rfl := HA.out.2.2.2.2 (by omega)
              obtain ⟨⟨u, hu⟩, ⟨v, hv⟩, hfu, hfv⟩ := hP.at s hlt
              have hst := hP.step hlt
              have hx2 := hX.2.1
              generalize z3.getD s 0 = z at hc1 hst
              generalize z4.getD s 0 = y at hc2 hst
              have HST := hide hst
              have HX := hide hX
              have HB := hide hB
              have HII := hide hI
              have HCC := hide hC
              clear hst hX hB hP hI hC
              go_wp2
              go_region
              go_wp2
              go_roundw
              case rel => exact ⟨s + 1, by omega, by go_num, HST.out, ((HX.out.far _ _ _ (by omega)).far _ _ _ (by omega)).drew, (HII.out.far _ _ _ (by omega)).far _ _ _ (by omega), (HCC.out.far _ _ _ (by omega)).far _ _ _ (by omega), ((HB.out.setCell (by simp; omega) _).setCell (by simp; omega) _).drew⟩
              case measure => simp [intOf]; omega
            · have hsn : s = n3 := by omega
              subst hsn
              have HPE := hide hP.pairs
              have HX := hide hX
              have HB := hide hB
              have HII := hide hI
              have HCC := hide hC
              clear hP hX hB hI hC
              go_wp2
              go_ret
              exact ⟨_, _, _, _, rfl, HX.out, HII.out, HCC.out, HPE.out, HB.out⟩
end Go.Proofs.Qxb6625802a
