/-
  THE WALK OF 'FnMarkedSplitMergeRebuilds'.
-/
import Derived.Test.Qxb6630627aSplitPlain
namespace Go.Proofs.Qxb6630627a
open Go.RowKit

theorem Try.info3 : (Try.prog.info? 3).map (fun i => (i.zero, i.size, i.bytes)) = some (some (.int .i64 0), 1, 8) := by kernel_rfl
theorem Try.info26 : (Try.prog.info? 26).map (fun i => (i.zero, i.size, i.bytes)) = some (some (.slice none 0 0), 1, 24) := by kernel_rfl

/-- What was there and what the law built first: the arguments' cells, the statements, the plan. -/
def Old (n sb so mb mo bb pb : Nat) (ss : List ByteArray) (ms : List Int) (w : World) : Prop :=
  (∀ i, i < n → w.cell? ⟨sb, so + i, none⟩ = some (.string (ss.getD i ByteArray.empty))) ∧ (∀ i, i < n → w.cell? ⟨mb, mo + i, none⟩ = some (.int .i64 (ms.getD i 0))) ∧
  Stmts w bb 0 (stm ss ms n) ∧ w.cell? ⟨pb, 0, none⟩ = some (.slice (some ⟨bb, 0, none⟩) n n)

theorem Old.later {n sb so mb mo bb pb : Nat} {ss : List ByteArray} {ms : List Int} {w w' : World} (h : Old n sb so mb mo bb pb ss ms w) (hb : Below w.heap.size w w') : Old n sb so mb mo bb pb ss ms w' :=
  ⟨fun i hi => cell_later hb (h.1 i hi), fun i hi => cell_later hb (h.2.1 i hi), h.2.2.1.later hb, cell_later hb h.2.2.2⟩

/-- An int row's cell. -/
theorem int_at {w : World} {base g d c : Nat} {D : List Int} (h : w.ownsRow base 3 1 (.slice (some ⟨g, 0, none⟩) d c) d (D.map (Value.int .i64))) (t : Nat) (ht : t < d) : w.cell? ⟨g, t, none⟩ = some (.int .i64 (D.getD t 0)) := by
  have hl := h.1
  simp at hl
  rw [h.cellAt t (by omega), List.getElem?_map, List.getElem?_eq_getElem (by omega)]
  simp [List.getD, show t < D.length by omega]

theorem grown_of_below {w w' : World} (h : Below w.heap.size w w') : w.grownBy w' none := ⟨h.os, h.tape, h.output, h.size, fun k hk _ => h.block k hk⟩

/-- One round of the loop that fills the lists. -/
theorem lists_step {w3 wx w' : World} {d t B : Nat} {xs : List Value} {v : Value} {F : Nat → List (ByteArray × Int)} (hO : wx.ownsRow B 26 1 (.slice (some ⟨B, 0, none⟩) d d) d xs)
    (hX : ∀ s, s < t → ∃ u, xs[s]? = some u ∧ Rowed (B + 1) wx u (F s)) (hB : Below B w3 wx) (hR : Rowed wx.heap.size w' v (F t)) (hb : Below wx.heap.size wx w') (ht : t < d) :
    (w'.setCell ⟨B, t, none⟩ v).ownsRow B 26 1 (.slice (some ⟨B, 0, none⟩) d d) d (xs.set t v) ∧ (∀ s, s < t + 1 → ∃ u, (xs.set t v)[s]? = some u ∧ Rowed (B + 1) (w'.setCell ⟨B, t, none⟩ v) u (F s)) ∧ Below B w3 (w'.setCell ⟨B, t, none⟩ v) := by
  have hlt : B < wx.heap.size := (hO.lt B rfl).2
  have hO' : w'.ownsRow B 26 1 (.slice (some ⟨B, 0, none⟩) d d) d xs := hO.kept (grown_of_below hb) (.inr (by simp [Value.ownBlock]))
  refine ⟨(hO'.stored t v).1, ?_, (hB.trans (hb.mono (by omega))).setCell (Nat.le_refl _) _⟩
  intro s hs
  have hl : xs.length = d := by have := hO.1; omega
  by_cases e : s = t
  · subst e
    exact ⟨v, by rw [List.getElem?_set_self (by omega)], (hR.mono (by omega)).setCell _ _ (by simp)⟩
  · obtain ⟨u, h1, h2⟩ := hX s (by omega)
    exact ⟨u, by rw [List.getElem?_set_ne (by omega)]; exact h1, (h2.later hb).setCell _ _ (by simp)⟩

/-- The positions behind i statements. -/
def posl (L : List (ByteArray × Int)) (D : List Int) (i : Nat) : List Int := (List.range D.length).map fun t => (cnt L D i t : Int)
theorem posl_length (L : List (ByteArray × Int)) (D : List Int) (i : Nat) : (posl L D i).length = D.length := by simp [posl]
theorem posl_at (L : List (ByteArray × Int)) (D : List Int) (i t : Nat) (h : t < D.length) : (posl L D i).getD t 0 = (cnt L D i t : Int) := by simp [posl, h]
theorem posl_zero (L : List (ByteArray × Int)) (D : List Int) : (posl L D 0).map (Value.int .i64) = List.replicate D.length (.int .i64 0) := by
  apply List.ext_getElem
  · simp [posl]
  · intro t h1 h2
    simp [posl, cnt_zero]
theorem posl_step (L : List (ByteArray × Int)) (D : List Int) (hD : D.Nodup) (i t0 : Nat) (hi : i < L.length) (ht : t0 < D.length) (h : L[i].2 = D.getD t0 0) :
    posl L D (i + 1) = (posl L D i).set t0 ((cnt L D i t0 : Int) + 1) := by
  apply List.ext_getElem
  · simp [posl]
  · intro t h1 h2
    have ht' : t < D.length := by simpa [posl] using h1
    rw [List.getElem_set]
    by_cases e : t0 = t
    · subst e
      simp [posl, cnt_hit L D i t0 hi h]
    · rw [if_neg e]
      have hne : L[i].2 ≠ D.getD t 0 := by
        rw [h]
        exact fun e' => e (nodup_place D hD t0 t ht ht' e')
      simp [posl, cnt_miss L D i t hi hne]

/-- What a round of the merging loop meets. -/
theorem merge_facts (n : Nat) (ss : List ByteArray) (ms D : List Int) (w5 : World) (lb i : Nat) (hml : n ≤ ms.length) (hDD : ded (ms.take n) = D) (hi : i < n)
    (hlist : ∀ s, s < D.length → ∃ u, w5.cell? ⟨lb, s, none⟩ = some u ∧ Rowed 0 w5 u (flt (stm ss ms n) (D.getD s 0))) :
    ∃ t0 c b cap kk : Nat, t0 < D.length ∧ D.getD t0 0 = ms.getD i 0 ∧ (∀ s, s < t0 → (D.getD s 0 == ms.getD i 0) = false) ∧ w5.cell? ⟨lb, t0, none⟩ = some (.slice (some ⟨b, 0, none⟩) kk cap) ∧ c < kk ∧
      w5.cell? ⟨b, c * 2, none⟩ = some (.string (ss.getD i ByteArray.empty)) ∧ w5.cell? ⟨b, c * 2 + 1, none⟩ = some (.int .i64 (ms.getD i 0)) ∧ c ≤ i ∧
      (posl (stm ss ms n) D i).getD t0 0 = (c : Int) ∧ posl (stm ss ms n) D (i + 1) = (posl (stm ss ms n) D i).set t0 ((c : Int) + 1) := by
  have hymem : ms.getD i 0 ∈ D := by
    rw [← hDD, ded_mem, List.mem_take_iff_getElem]
    have hil : i < ms.length := by omega
    exact ⟨i, by omega, by simp [List.getD, hil]⟩
  obtain ⟨t0, hp1, hp2, hp3⟩ := mem_place D _ hymem
  have hiL : i < (stm ss ms n).length := by rw [stm_length]; exact hi
  have hLi : (stm ss ms n)[i] = (ss.getD i ByteArray.empty, ms.getD i 0) := stm_at _ _ _ _ hiL
  have hD : D.Nodup := by rw [← hDD]; exact ded_nodup _
  have hstep := posl_step (stm ss ms n) D hD i t0 hiL hp1 (by rw [hLi, hp2])
  obtain ⟨hk1, hk2⟩ := flt_split (stm ss ms n) (D.getD t0 0) i hiL (by rw [hLi, hp2])
  obtain ⟨u, hu1, hu2⟩ := hlist t0 hp1
  obtain ⟨ao, b, cap, rfl, hao, _, hSt⟩ := hu2
  obtain rfl := hao (by omega)
  obtain ⟨hg1, hg2⟩ := hSt _ hk1
  rw [hk2, hLi, Nat.zero_add] at hg1 hg2
  exact ⟨t0, cnt (stm ss ms n) D i t0, b, cap, _, hp1, hp2, hp3, hu1, hk1, hg1, hg2, cnt_le _ _ _ _, posl_at _ _ _ _ hp1, hstep⟩

theorem contains_take (D : List Int) (m : Int) (t : Nat) (h : t < D.length) : (D.take (t + 1)).contains m = ((D.take t).contains m || (D.getD t 0 == m)) := by
  rw [List.take_succ_eq_append_getElem h, List.contains_append]
  simp only [List.contains_cons, List.contains_nil, Bool.or_false, List.getD, List.getElem?_eq_getElem h, Option.getD_some]
  rw [Bool.beq_comm]

/-- A mark that none of the marks met is: no statement bears it. -/
theorem unmarked (n : Nat) (ss : List ByteArray) (ms D : List Int) (m : Int) (hml : n ≤ ms.length) (hDD : ded (ms.take n) = D) (h : D.contains m = false) : flt (stm ss ms n) m = [] := by
  apply flt_none
  intro p hp e
  have h1 := stm_marks ss ms n hml p hp
  rw [e, ← ded_mem, hDD, ← List.contains_iff_mem, h] at h1
  cases h1

set_option maxRecDepth 100000 in
set_option maxHeartbeats 4000000 in
theorem split_walk (sa : Option Addr) (n sc : Nat) (ma : Option Addr) (k mc : Nat) (sb so mb mo : Nat) (ss : List ByteArray) (ms : List Int) (m : Int) (w : World) (hn : n ≤ maxLen) (hk : k ≤ maxLen) (hml : k ≤ ms.length)
    (hsa : 0 < n → sa = some ⟨sb, so, none⟩) (hs : ∀ i, i < n → w.cell? ⟨sb, so + i, none⟩ = some (.string (ss.getD i ByteArray.empty)))
    (hma : 0 < k → ma = some ⟨mb, mo, none⟩) (hm : ∀ i, i < k → w.cell? ⟨mb, mo + i, none⟩ = some (.int .i64 (ms.getD i 0))) :
    Calls Try.prog 4 #[.slice sa n sc, .slice ma k mc, .int .i64 m] w fun e w' => e = .returned (.bool true) ∧ Below w.heap.size w w' := by
  obtain ⟨i3, hi, hz0, hz1, hz2⟩ := info_parts Try.info3
  have C10 := hide (zz10_any sa n sc ma k mc m sb so ss w hn hsa hs)
  have C6 := hide (size_any sa n sc ma k mc 0 sb so ss w hn hsa hs)
  have HSA := hide hsa
  have HS := hide hs
  have HMA := hide hma
  have HM := hide hm
  unfold maxLen at hn hk
  clear hsa hs hma hm
  go_enter Try.func4, Try.ntmps4
  go_wp2_with fail
  refine C10.out.mono ?_
  rintro e w' ⟨⟨b, rfl⟩, hw⟩
  obtain rfl := hw.symm
  cases b
  · go_wp2
    go_ret
    exact ⟨rfl, Below.refl _ _⟩
  by_cases h1 : 4096 < n
  · go_wp2
    go_ret
    exact ⟨rfl, Below.refl _ _⟩
  by_cases h2 : 4096 < k
  · go_wp2
    go_ret
    exact ⟨rfl, Below.refl _ _⟩
  go_wp2_with fail
  refine C6.out.mono ?_
  rintro e w' ⟨⟨b, rfl⟩, hw⟩
  obtain rfl := hw.symm
  cases b
  · go_wp2
    go_ret
    exact ⟨rfl, Below.refl _ _⟩
  by_cases h3 : n = k
  rotate_left
  · have h3' : ((n : Int) == (k : Int)) = false := by simp; omega
    clear h3
    go_wp2
    go_ret
    exact ⟨rfl, Below.refl _ _⟩
  subst h3
  go_wp2_with fail
  refine (build_any sa n sc ma mc sb so mb mo ss ms w (by omega) HSA.out HS.out HMA.out HM.out).mono ?_
  rintro e w1 ⟨rfl, hS, hB⟩
  have hO : Old n sb so mb mo w.heap.size w1.heap.size ss ms (w1.alloc (.cells #[.slice (some ⟨w.heap.size, 0, none⟩) n n] 33)) :=
    ⟨fun i hi => cell_later (hB.alloc hB.size _) (HS.out i hi), fun i hi => cell_later (hB.alloc hB.size _) (HM.out i hi), hS.later ((Below.refl _ _).alloc (Nat.le_refl _) _), by simp⟩
  have hBW : Below w.heap.size w (w1.alloc (.cells #[.slice (some ⟨w.heap.size, 0, none⟩) n n] 33)) := hB.alloc hB.size _
  have HO := hide hO
  have HB := hide hBW
  clear hS hB hO hBW
  go_wp2_with (at_make; refine wpList_make_own _ rfl _ _ 23 rfl (w1.heap.size + 1) 3 i3 _ 1 Try.underlying23 hi hz0 hz1 _ _ _ n rfl rfl rfl (by rw [hz2]; omega) (by simp only [maxLen]; omega) (by simp) ?_; intro w2 hown hgrow)
  rw [World.size_alloc] at hown
  obtain ⟨W1, HO1, HB1, HBW, hsz⟩ : ∃ W1 : World, Hid (Old n sb so mb mo w.heap.size w1.heap.size ss ms W1) ∧ Hid (Below w.heap.size w W1) ∧ Hid (Below W1.heap.size W1 w2) ∧ W1.heap.size = w1.heap.size + 1 :=
    ⟨_, HO, HB, (Below.refl _ _).grown hgrow (Nat.le_refl _) (fun k h => by cases h), by simp⟩
  rw [← hsz] at hown ⊢
  have HN := hide hml
  have HOW := hide hown
  clear hgrow hsz HO HB C10 C6 HS HM hn hk h2 hw hml hown
  generalize hpb : w1.heap.size = pb at *
  clear hpb
  go_loopw [9, 10] (fun v i wr => ∃ j : Nat, j ≤ n ∧ i = .int .i64 j ∧ v = .slice (some ⟨W1.heap.size, 0, none⟩) (ded (ms.take j)).length n ∧
      wr.ownsRow W1.heap.size 3 1 (.slice (some ⟨W1.heap.size, 0, none⟩) (ded (ms.take j)).length n) (ded (ms.take j)).length ((ded (ms.take j)).map (Value.int .i64)) ∧ Below W1.heap.size W1 wr) (fun _ i _ => n - (intOf i).toNat)
  case atStart => exact ⟨0, Nat.zero_le _, rfl, rfl, HOW.out, HBW.out⟩
  case round =>
    obtain ⟨j, hj, rfl, rfl, hO, hB⟩ := hrel
    clear HOW HBW
    have hdl : (ded (ms.take j)).length ≤ j := Nat.le_trans (ded_le _) (by simp; omega)
    by_cases hlt : j < n
    · have hcm : wr.cell? ⟨mb, mo + j, none⟩ = some (.int .i64 (ms.getD j 0)) := cell_later hB (HO1.out.2.1 j hlt)
      have hded := ded_take ms j (by have := HN.out; omega)
      have HD := hide hded
      obtain rfl := HMA.out (by omega)
      have hrow := fun t (ht : t < (ded (ms.take j)).length) => int_at hO t ht
      have HRow := hide hrow
      have HO := hide hO
      have HB := hide hB
      clear hrow hO hB hded
      generalize hy : ms.getD j 0 = y at *
      clear hy
      generalize hDD : ded (ms.take j) = D at *
      have HDD := hide hDD
      clear hDD
      go_wp2
      go_loopw [11, 12] (fun f v wx => ∃ t : Nat, t ≤ D.length ∧ f = .bool false ∧ v = .int .i64 t ∧ (∀ s, s < t → (D.getD s 0 == y) = false) ∧ ∃ q, wx = wr.drewN q) (fun _ v _ => D.length - (intOf v).toNat)
      case atStart => exact ⟨0, Nat.zero_le _, rfl, rfl, fun s h => by omega, 0, rfl⟩
      case round =>
        obtain ⟨t, ht, rfl, rfl, hno, q, rfl⟩ := hrel
        have HNo := hide hno
        clear hno
        by_cases htd : t < D.length
        · have hct := HRow.out t htd
          generalize hdt : D.getD t 0 = dt at hct
          have HDt := hide hdt
          clear hdt
          cases hyt : (dt == y)
          · go_wp2
            go_quiet (fail)
            go_wp2
            go_roundw
            case rel =>
              refine ⟨t + 1, by omega, rfl, by go_num, fun s hs => ?_, _, rfl⟩
              by_cases e : s = t
              · rw [e, HDt.out]; exact hyt
              · exact HNo.out s (by omega)
            case measure => simp [intOf]; omega
          · go_wp2
            go_quiet (fail)
            go_wp2
            go_roundw
            case rel =>
              have e : ded (ms.take (j + 1)) = D := by
                rw [HD.out]
                refine if_pos (List.contains_iff_mem.2 ?_)
                have h1 : D.getD t 0 = y := by rw [HDt.out]; exact by simpa using hyt
                rw [← h1]
                simp [List.getD, htd]
              refine ⟨j + 1, by omega, by go_num, by rw [e], ?_, below_drewN HB.out _⟩
              rw [e]
              exact HO.out
            case measure => simp [intOf]; omega
        · go_wp2_with (at_builtin; refine wpList_append_fits _ rfl (.tmp 76) (.tmp 81) 23 rfl W1.heap.size 3 i3 1 Try.underlying23 hi hz1 W1.heap.size D.length n _ rfl (World.ownsRow.alloc (w := wr.drewN q) HO.out _) ⟨wr.heap.size, 0, none⟩ 1 1 [.int .i64 y] rfl rfl ?c1 ?c2 ?c3 ?_)
          case c1 => exact cell_one_new (wr.drewN q) _ _
          case c2 => intro u hu; simp at hu; subst hu; rfl
          case c3 => omega
          intro w3 hown3 hgrow3
          have HO3 := hide hown3
          have hB3 : Below W1.heap.size W1 w3 := ((below_drewN HB.out q).alloc HB.out.size _).grown hgrow3 (Nat.le_trans HB.out.size (by simp)) (fun k hk => by simp at hk; omega)
          have HB3 := hide hB3
          clear hown3 hgrow3 hB3
          go_wp2
          go_roundw
          case rel =>
            have e : ded (ms.take (j + 1)) = D ++ [y] := by
              rw [HD.out]
              refine if_neg ?_
              intro hmem
              obtain ⟨t', p1, p2, _⟩ := mem_place D y (List.contains_iff_mem.1 hmem)
              have := HNo.out t' (by omega)
              rw [p2] at this
              simp at this
            refine ⟨j + 1, by omega, by go_num, by rw [e]; simp, ?_, HB3.out⟩
            rw [e, List.length_append, List.map_append]
            exact HO3.out
          case measure => simp [intOf]; omega
    · obtain ⟨i26, hj0, hy0, hy1, hy2⟩ := info_parts Try.info26
      have hjn : j = n := by omega
      subst hjn
      obtain ⟨w3, e3⟩ : ∃ w3, w3 = wr := ⟨_, rfl⟩
      subst e3
      have HO3 := hide hO
      have hOld3 := HO1.out.later hB
      have HOld3 := hide hOld3
      have hB3 := HB1.out.trans (hB.mono HB1.out.size)
      have HB3 := hide hB3
      clear hO hOld3 hB hB3 HO1 HB1 hj hlt
      generalize hgm : W1.heap.size = gm at *
      clear hgm
      generalize hDD : ded (ms.take j) = D at *
      have HDD := hide hDD
      clear hDD
      go_wp2_with (at_make; refine wpList_make_full _ rfl _ _ 36 rfl w3.heap.size 26 i26 _ 1 Try.underlying36 hj0 hy0 hy1 _ _ _ _ D.length rfl rfl rfl rfl (by rw [hy2]; omega) (by simp only [maxLen]; omega) (Nat.le_refl _) ?_; intro w4 hown4 hgrow4)
      have hrow := fun t (ht : t < D.length) => int_at HO3.out t ht
      have HRow := hide hrow
      have HO4 := hide hown4
      have hB4 : Below w3.heap.size w3 w4 := (Below.refl _ _).grown hgrow4 (Nat.le_refl _) (fun k h => by cases h)
      have HB4 := hide hB4
      clear hown4 hgrow4 hB4 HO3 hrow
      go_loopw [14] (fun v wx => ∃ (t : Nat) (xs : List Value), t ≤ D.length ∧ v = .int .i64 t ∧ wx.ownsRow w3.heap.size 26 1 (.slice (some ⟨w3.heap.size, 0, none⟩) D.length D.length) D.length xs ∧
          (∀ s, s < t → ∃ u, xs[s]? = some u ∧ Rowed (w3.heap.size + 1) wx u (flt (stm ss ms j) (D.getD s 0))) ∧ Below w3.heap.size w3 wx) (fun v _ => D.length - (intOf v).toNat)
      case atStart => exact ⟨0, _, Nat.zero_le _, rfl, HO4.out, fun s h => by omega, HB4.out⟩
      case round =>
        obtain ⟨t, xs, ht, rfl, hO, hX, hB⟩ := hrel
        by_cases hlt : t < D.length
        · have hcm := cell_later hB (HRow.out t hlt)
          have hlb : w3.heap.size < wr.heap.size := (hO.lt _ rfl).2
          have hxl : xs.length = D.length := by have := hO.1; omega
          obtain ⟨u0, hu0⟩ : ∃ u, wr.cell? ⟨w3.heap.size, t, none⟩ = some u := ⟨_, (hO.cellAt t (by omega)).trans (List.getElem?_eq_getElem (by omega))⟩
          have hf0 := hO.frozenAt t
          have hOld := HOld3.out.later hB
          have CM := hide (marked_any pb (some ⟨w.heap.size, 0, none⟩) j j w.heap.size 0 (stm ss ms j) (D.getD t 0) wr (by omega) (stm_length _ _ _).symm hOld.2.2.2 (fun _ => rfl) hOld.2.2.1)
          have HST := hide (fun w' v hR hb => lists_step (w' := w') (v := v) (F := fun s => flt (stm ss ms j) (D.getD s 0)) hO hX hB hR hb hlt)
          have HU := hide (And.intro hu0 (And.intro hf0 hlb))
          clear hO hX hB hOld hu0 hf0 hlb hxl
          generalize hdt : D.getD t 0 = dt at hcm CM HST
          have HDt := hide hdt
          clear hdt
          go_wp2_with fail
          refine CM.out.mono ?_
          rintro e w' ⟨v, rfl, hR, hb⟩
          have hst := HST.out w' v hR hb
          have hc : w'.cell? ⟨w3.heap.size, t, none⟩ = some u0 := cell_later hb HU.out.1
          have hfz : w'.frozen? ⟨w3.heap.size, t, none⟩ = false := (hb.frozen (by exact HU.out.2.2)).trans HU.out.2.1
          obtain ⟨ao, b, cap, rfl, _⟩ := hR
          have HS2 := hide hst
          clear hst hb
          go_wp2
          go_roundw
          case rel => exact ⟨t + 1, _, by omega, by go_num, HS2.out.1, HS2.out.2.1, HS2.out.2.2⟩
          case measure => simp [intOf]; omega
        · have htd : t = D.length := by omega
          subst htd
          obtain ⟨w5, e5⟩ : ∃ w5, w5 = wr := ⟨_, rfl⟩
          subst e5
          have hlist : ∀ s, s < D.length → ∃ u, w5.cell? ⟨w3.heap.size, s, none⟩ = some u ∧ Rowed 0 w5 u (flt (stm ss ms j) (D.getD s 0)) := by
            intro s hs
            obtain ⟨u, p1, p2⟩ := hX s hs
            exact ⟨u, (hO.cellAt s (by omega)).trans p1, p2.mono (Nat.zero_le _)⟩
          have HLi := hide hlist
          have hOld5 := HOld3.out.later hB
          have HOld5 := hide hOld5
          have hRow5 := fun t (ht : t < D.length) => cell_later hB (HRow.out t ht)
          have HRow5 := hide hRow5
          have hB5 := HB3.out.trans (hB.mono HB3.out.size)
          have HB5 := hide hB5
          clear hlist hOld5 hRow5 hB5 hO hX hB HRow HOld3 HB3 HO4 HB4 ht hlt
          generalize hlb : w3.heap.size = lb at *
          clear hlb
          go_wp2_with (at_make; refine wpList_make_full _ rfl _ _ 23 rfl w5.heap.size 3 i3 _ 1 Try.underlying23 hi hz0 hz1 _ _ _ _ D.length rfl rfl rfl rfl (by rw [hz2]; omega) (by simp only [maxLen]; omega) (Nat.le_refl _) ?_; intro w6 hown6 hgrow6)
          have hB6 : Below w5.heap.size w5 w6 := (Below.refl _ _).grown hgrow6 (Nat.le_refl _) (fun k h => by cases h)
          have HB6 := hide hB6
          have hO6 : w6.ownsRow w5.heap.size 3 1 (.slice (some ⟨w5.heap.size, 0, none⟩) D.length D.length) D.length ((posl (stm ss ms j) D 0).map (Value.int .i64)) := by
            rw [posl_zero]
            have := hown6
            rw [Nat.mul_one] at this
            rwa [show (Value.int IntKind.i64 0).cells = #[Value.int IntKind.i64 0] from rfl, toList_madeCells_one] at this
          have HO6 := hide hO6
          clear hown6 hgrow6 hB6 hO6
          go_loopw [16] (fun v wx => ∃ i : Nat, i ≤ j ∧ v = .int .i64 i ∧ wx.ownsRow w5.heap.size 3 1 (.slice (some ⟨w5.heap.size, 0, none⟩) D.length D.length) D.length ((posl (stm ss ms j) D i).map (Value.int .i64)) ∧ Below w5.heap.size w5 wx) (fun v _ => j - (intOf v).toNat)
          case atStart => exact ⟨0, Nat.zero_le _, rfl, HO6.out, HB6.out⟩
          case round =>
            obtain ⟨i, hij, rfl, hO, hB⟩ := hrel
            by_cases hlt : i < j
            · obtain ⟨w7, e7⟩ : ∃ w7, w7 = wr := ⟨_, rfl⟩
              subst e7
              obtain ⟨t0, c, b, cap, kk, hp1, hp2, hp3, hu1, hck, hg1, hg2, hci, hpc, hstep⟩ := merge_facts j ss ms D w5 lb i HN.out HDD.out hlt HLi.out
              have hcp := int_at hO t0 hp1
              rw [hpc] at hcp
              have hfp := hO.frozenAt t0
              have hpz : w5.heap.size < w7.heap.size := (hO.lt _ rfl).2
              have hcl := cell_later hB hu1
              have hc1 := cell_later hB hg1
              have hc2 := cell_later hB hg2
              have hcs := cell_later hB (HOld5.out.1 i hlt)
              have hcm := cell_later hB (HOld5.out.2.1 i hlt)
              have hz1' := World.block_lt_of_cell? _ _ hcs
              have hz2' := World.block_lt_of_cell? _ _ hcm
              have hz3' := World.block_lt_of_cell? _ _ hcl
              have hz4' := World.block_lt_of_cell? _ _ hc1
              obtain rfl := HMA.out (by omega)
              obtain rfl := HSA.out (by omega)
              have hrow := fun s (hs : s < D.length) => cell_later hB (HRow5.out s hs)
              have HRw := hide hrow
              have HP3 := hide hp3
              have HP2 := hide hp2
              have HST := hide hstep
              have HOI := hide hO
              have HBI := hide hB
              clear hO hB hrow hp3 hp2 hstep hu1 hg1 hg2 hpc HO6 HB6
              simp only at hz1' hz2' hz3' hz4'
              generalize hy : ms.getD i 0 = y at *
              generalize hsi : ss.getD i ByteArray.empty = si at *
              clear hy hsi
              go_wp2
              go_loopw [17] (fun v wx => ∃ t : Nat, t ≤ t0 ∧ v = .int .i64 t ∧ ∃ q, wx = w7.drewN q) (fun v _ => t0 - (intOf v).toNat)
              case atStart => exact ⟨0, Nat.zero_le _, rfl, 0, rfl⟩
              case round =>
                obtain ⟨t, htt, rfl, q, rfl⟩ := hrel
                have hct := HRw.out t (by omega)
                have htd : t < D.length := by omega
                by_cases hlt0 : t < t0
                · have hne := HP3.out t hlt0
                  generalize D.getD t 0 = dt at hct hne
                  clear hcl hc1 hc2 hcs hz1' hz2' hz3' hz4' hcp hfp
                  go_wp2
                  go_quiet (fail)
                  go_wp2
                  go_roundw
                  case rel => exact ⟨t + 1, by omega, by go_num, _, rfl⟩
                  case measure => simp [intOf]; omega
                · have htt0 : t = t0 := by omega
                  subst htt0
                  rw [HP2.out] at hct
                  have hne : ((t : Int) == (D.length : Int)) = false := by simp; omega
                  go_wp2
                  go_quiet (fail)
                  go_wp2
                  generalize q + nq = q2
                  go_quiet (fail)
                  go_wp2
                  rw [World.drewN_drewN]
                  generalize hw8 : w7.drewN (q2 + nq) = w8
                  replace hcp : w8.cell? ⟨w5.heap.size, t, none⟩ = some (.int .i64 (c : Int)) := by rw [← hw8]; exact hcp
                  replace hfp : w8.frozen? ⟨w5.heap.size, t, none⟩ = false := by rw [← hw8]; exact hfp
                  replace hcl : w8.cell? ⟨lb, t, none⟩ = some (.slice (some ⟨b, 0, none⟩) kk cap) := by rw [← hw8]; exact hcl
                  replace hc1 : w8.cell? ⟨b, c * 2, none⟩ = some (.string si) := by rw [← hw8]; exact hc1
                  replace hc2 : w8.cell? ⟨b, c * 2 + 1, none⟩ = some (.int .i64 y) := by rw [← hw8]; exact hc2
                  replace hcs : w8.cell? ⟨sb, so + i, none⟩ = some (.string si) := by rw [← hw8]; exact hcs
                  replace hcm : w8.cell? ⟨mb, mo + i, none⟩ = some (.int .i64 y) := by rw [← hw8]; exact hcm
                  have HO8 : Hid (w8.ownsRow w5.heap.size 3 1 (.slice (some ⟨w5.heap.size, 0, none⟩) D.length D.length) D.length ((posl (stm ss ms j) D i).map (Value.int .i64))) := by rw [← hw8]; exact HOI.out
                  have HB8 : Hid (Below w5.heap.size w5 w8) := by rw [← hw8]; exact below_drewN HBI.out _
                  replace hpz : w5.heap.size < w8.heap.size := by rw [← hw8]; exact hpz
                  replace hz1' : sb < w8.heap.size := by rw [← hw8]; exact hz1'
                  replace hz2' : mb < w8.heap.size := by rw [← hw8]; exact hz2'
                  replace hz3' : lb < w8.heap.size := by rw [← hw8]; exact hz3'
                  replace hz4' : b < w8.heap.size := by rw [← hw8]; exact hz4'
                  clear hw8 HOI HBI hct
                  go_region
                  go_wp2
                  have hss : (si.toList == si.toList) = true := by simp
                  have hyy : (y == y) = true := by simp
                  go_quiet (fail)
                  go_wp2
                  go_roundw
                  case rel =>
                    have h9 : ((w8.alloc (.cells #[.string si, .int .i64 y] 30)).drewN (1 + nq)).ownsRow w5.heap.size 3 1 (.slice (some ⟨w5.heap.size, 0, none⟩) D.length D.length) D.length ((posl (stm ss ms j) D i).map (Value.int .i64)) := HO8.out.alloc _
                    refine ⟨i + 1, by omega, by go_num, ?_, (below_drewN (HB8.out.alloc HB8.out.size _) _).setCell (Nat.le_refl _) _⟩
                    rw [HST.out, List.map_set]
                    exact (h9.stored t _).1
                  case measure => simp [intOf]; omega
            · obtain ⟨w9, e9⟩ : ∃ w9, w9 = wr := ⟨_, rfl⟩
              subst e9
              have hij' : i = j := by omega
              subst hij'
              have hfin : ∀ t, t < D.length → ∃ (ao : Option Addr) (kk cap : Nat), w9.cell? ⟨w5.heap.size, t, none⟩ = some (.int .i64 (kk : Int)) ∧ w9.cell? ⟨lb, t, none⟩ = some (.slice ao kk cap) := by
                intro t ht
                obtain ⟨u, hu1, ao, b, cap, rfl, _⟩ := HLi.out t ht
                refine ⟨ao, _, cap, ?_, cell_later hB hu1⟩
                rw [int_at hO t ht, posl_at _ _ _ _ ht, cnt_all _ _ _ _ (by rw [stm_length]; exact Nat.le_refl _)]
              have HF := hide hfin
              have hOld9 := HOld5.out.later hB
              have HOld9 := hide hOld9
              have hRow9 := fun t (ht : t < D.length) => cell_later hB (HRow5.out t ht)
              have HRow9 := hide hRow9
              have hB9 := HB5.out.trans (hB.mono HB5.out.size)
              have HB9 := hide hB9
              clear hfin hOld9 hRow9 hB9 hO hB HLi HOld5 HRow5 HB5 HO6 HB6
              go_wp2
              go_loopw [19] (fun v wx => ∃ t : Nat, t ≤ D.length ∧ v = .int .i64 t ∧ ∃ q, wx = w9.drewN q) (fun v _ => D.length - (intOf v).toNat)
              case atStart => exact ⟨0, Nat.zero_le _, rfl, 0, rfl⟩
              case round =>
                obtain ⟨t, htt, rfl, q, rfl⟩ := hrel
                by_cases hlt0 : t < D.length
                · obtain ⟨ao, kk, cap, hk1, hk2⟩ := HF.out t hlt0
                  have hkk : ((kk : Int) == (kk : Int)) = true := by simp
                  go_wp2
                  go_quiet (fail)
                  go_wp2
                  go_roundw
                  case rel => exact ⟨t + 1, by omega, by go_num, _, rfl⟩
                  case measure => simp [intOf]; omega
                · have HB10 : Hid (Below w.heap.size w (w9.drewN q)) := below_drewN HB9.out q
                  have HOld10 : Hid (Old i sb so mb mo w.heap.size pb ss ms (w9.drewN q)) := HOld9.out.later (below_drewN (Below.refl _ _) q)
                  have HRow10 : Hid (∀ t, t < D.length → (w9.drewN q).cell? ⟨gm, t, none⟩ = some (.int .i64 (D.getD t 0))) := HRow9.out
                  go_wp2
                  generalize w9.drewN q = w10 at *
                  clear HF HOld9 HRow9 HB9
                  go_loop [20, 21] (fun f v => ∃ t : Nat, t ≤ D.length ∧ f = .bool ((D.take t).contains m) ∧ v = .int .i64 t) (fun _ v => D.length - (intOf v).toNat)
                  case atStart => exact ⟨0, Nat.zero_le _, rfl, rfl⟩
                  case round =>
                    obtain ⟨t2, ht2, rfl, rfl⟩ := hrel
                    by_cases hlt2 : t2 < D.length
                    · have hct := HRow10.out t2 hlt2
                      have hcon := contains_take D m t2 hlt2
                      generalize D.getD t2 0 = dt at hct hcon
                      have HCo := hide hcon
                      clear hcon
                      cases hdm : (dt == m)
                      · go_wp2
                        go_round
                        case rel => exact ⟨t2 + 1, by omega, by rw [HCo.out, hdm, Bool.or_false], by go_num⟩
                        case measure => simp [intOf]; omega
                      · go_wp2
                        go_round
                        case rel => exact ⟨t2 + 1, by omega, by rw [HCo.out, hdm, Bool.or_true], by go_num⟩
                        case measure => simp [intOf]; omega
                    · have ht3 : D.take t2 = D := List.take_of_length_le (by omega)
                      rw [ht3]
                      clear ht3
                      cases hcD : D.contains m
                      · have CM := hide (marked_any pb (some ⟨w.heap.size, 0, none⟩) i i w.heap.size 0 (stm ss ms i) m w10 (by omega) (stm_length _ _ _).symm HOld10.out.2.2.2 (fun _ => rfl) HOld10.out.2.2.1)
                        have hfe := unmarked i ss ms D m HN.out HDD.out hcD
                        have HFE := hide hfe
                        clear hfe hcD
                        go_wp2_with fail
                        refine CM.out.mono ?_
                        rintro e w' ⟨v, rfl, hR, hb⟩
                        rw [HFE.out] at hR
                        obtain ⟨ao, b, cap, rfl, _⟩ := hR
                        have HBf := hide (HB10.out.trans (hb.mono HB10.out.size))
                        clear hb
                        go_wp2
                        go_ret
                        exact ⟨rfl, HBf.out⟩
                      · clear hcD
                        go_wp2
                        go_ret
                        exact ⟨rfl, HB10.out⟩
end Go.Proofs.Qxb6630627a
