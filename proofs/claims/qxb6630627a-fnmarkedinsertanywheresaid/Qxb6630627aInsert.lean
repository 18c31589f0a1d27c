/-
  THE WALK OF 'FnMarkedInsertAnywhere'.
-/
import Derived.Test.Qxb6630627aInsertPlain
namespace Go.Proofs.Qxb6630627a
open Go.RowKit

/-- The statements and x, as they lie. -/
def Lie (bb xb : Nat) (L : List (ByteArray × Int)) (x : ByteArray × Int) (w : World) : Prop :=
  Stmts w bb 0 L ∧ w.cell? ⟨xb, 0, none⟩ = some (.string x.1) ∧ w.cell? ⟨xb, 1, none⟩ = some (.int .i64 x.2)
theorem Lie.later {bb xb : Nat} {L : List (ByteArray × Int)} {x : ByteArray × Int} {w w' : World} (h : Lie bb xb L x w) (hb : Below w.heap.size w w') : Lie bb xb L x w' :=
  ⟨h.1.later hb, cell_later hb h.2.1, cell_later hb h.2.2⟩

theorem stmts_of_owns {w : World} {base g n cap : Nat} {L : List (ByteArray × Int)} (h : w.ownsRow base 30 2 (.slice (some ⟨g, 0, none⟩) n cap) n (cellsOf L)) (hl : L.length = n) : Stmts w g 0 L := by
  intro i hi
  obtain ⟨h1, h2⟩ := cellsOf_at L i hi
  rw [Nat.zero_add, h.cellAt _ (by omega), h.cellAt _ (by omega), h1, h2]
  exact ⟨rfl, rfl⟩

theorem marked_boxed (ao : Option Addr) (n cap b o : Nat) (L : List (ByteArray × Int)) (m : Int) (w : World) (hn : n ≤ 100000) (hL : n = L.length) (hao : 0 < n → ao = some ⟨b, o, none⟩) (hS : Stmts w b o L) :
    Calls Try.prog 8 #[.pointer (some ⟨w.heap.size, 0, none⟩), .int .i64 m] (w.alloc (.cells #[.slice ao n cap] 33)) fun e w' =>
      ∃ (a' : Option Addr) (b' c' : Nat), e = .returned (.slice a' (flt L m).length c') ∧ (0 < (flt L m).length → a' = some ⟨b', 0, none⟩) ∧ Stmts w' b' 0 (flt L m) ∧ Below w.heap.size w w' := by
  refine (marked_any w.heap.size ao n cap b o L m _ hn hL (by simp) hao (hS.later ((Below.refl _ _).alloc (Nat.le_refl _) _))).mono ?_
  rintro e w' ⟨v, rfl, ⟨a', b', c', rfl, h1, _, h2⟩, hb⟩
  exact ⟨a', b', c', rfl, h1, h2, ((Below.refl _ _).alloc (Nat.le_refl _) _).trans (hb.mono (by simp))⟩

/-- Two rows of the call's own: the other one stays as it was behind an append to the one. -/
theorem other_kept {w w' : World} {base g g' k cap : Nat} {xs : List Value} (h : w.ownsRow base 30 2 (.slice (some ⟨g', 0, none⟩) k cap) k xs) {o : Obj} (hg : (w.alloc o).grownBy w' (some g)) (hne : g' ≠ g) : w'.ownsRow base 30 2 (.slice (some ⟨g', 0, none⟩) k cap) k xs :=
  (h.alloc o).kept hg (.inr (by simp [Value.ownBlock]; exact hne))
theorem below_append {B : Nat} {w0 w w' : World} {g : Nat} {o : Obj} (h : Below B w0 w) (hB : B ≤ w.heap.size) (hg : (w.alloc o).grownBy w' (some g)) (hgB : B ≤ g) : Below B w0 w' :=
  (h.alloc hB o).grown hg (Nat.le_trans hB (by simp)) (fun k hk => by simp at hk; omega)

theorem eq_same2 (a1 a2 : Option Addr) (n n2 c1 c2 b1 o1 b2 o2 : Nat) (A : List (ByteArray × Int)) (w : World) (hn : n ≤ 200000) (hA : n = A.length) (e : n2 = n)
    (h1 : 0 < n → a1 = some ⟨b1, o1, none⟩) (hS1 : Stmts w b1 o1 A) (h2 : 0 < n → a2 = some ⟨b2, o2, none⟩) (hS2 : Stmts w b2 o2 A) :
    Calls Try.prog 9 #[.slice a1 n c1, .slice a2 n2 c2] w fun e w' => e = .returned (.bool true) ∧ ∃ q, w' = w.drewN q := by
  subst e
  exact eq_same a1 a2 _ c1 c2 b1 o1 b2 o2 A w hn hA h1 hS1 h2 hS2

theorem two_one (a : ByteArray) (q : Int) : ∀ u ∈ [Value.string a, .int .i64 q], u.oneCell' = true := by
  intro u hu
  simp at hu
  rcases hu with rfl | rfl <;> rfl

set_option maxRecDepth 100000 in
set_option maxHeartbeats 4000000 in
theorem insert_walk (sa : Option Addr) (n sc : Nat) (ma : Option Addr) (k' mc : Nat) (xs : ByteArray) (xm k m : Int) (sb so mb mo : Nat) (ss : List ByteArray) (ms : List Int) (w : World) (hn : n ≤ maxLen) (hk : k' ≤ maxLen) (hxs : xs.size ≤ maxLen)
    (hsa : 0 < n → sa = some ⟨sb, so, none⟩) (hs : ∀ i, i < n → w.cell? ⟨sb, so + i, none⟩ = some (.string (ss.getD i ByteArray.empty)))
    (hma : 0 < k' → ma = some ⟨mb, mo, none⟩) (hm : ∀ i, i < k' → w.cell? ⟨mb, mo + i, none⟩ = some (.int .i64 (ms.getD i 0))) :
    Calls Try.prog 3 #[.slice sa n sc, .slice ma k' mc, .string xs, .int .i64 xm, .int .i64 k, .int .i64 m] w fun e w' => e = .returned (.bool true) ∧ Below w.heap.size w w' := by
  obtain ⟨i0, hi, hz0, hz1, hz2⟩ := info_parts Try.info30
  have C5 := hide (zz5_any sa n sc ma k' mc xs xm k m sb so ss w hn hsa hs)
  have C6 := hide (size_any sa n sc ma k' mc (xs.size : Int) sb so ss w hn hsa hs)
  have HSA := hide hsa
  have HS := hide hs
  have HMA := hide hma
  have HM := hide hm
  unfold maxLen at hn hk hxs
  clear hsa hs hma hm
  go_enter Try.func3, Try.ntmps3
  go_wp2_with fail
  refine C5.out.mono ?_
  rintro e w' ⟨⟨b, rfl⟩, hw⟩
  obtain rfl := hw.symm
  cases b
  · go_wp2
    go_ret
    exact ⟨rfl, Below.refl _ _⟩
  by_cases h1 : 65536 < n
  · go_wp2
    go_ret
    exact ⟨rfl, Below.refl _ _⟩
  by_cases h2 : 65536 < k'
  · go_wp2
    go_ret
    exact ⟨rfl, Below.refl _ _⟩
  by_cases h3 : 1048576 < xs.size
  · go_wp2
    go_ret
    exact ⟨rfl, Below.refl _ _⟩
  go_wp2_with fail
  refine C6.out.mono ?_
  rintro e w' ⟨⟨b, rfl⟩, hw⟩
  obtain rfl := hw.symm
  cases b
  · go_wp2
    go_ret
    exact ⟨rfl, Below.refl _ _⟩
  by_cases h4 : n = k'
  rotate_left
  · have h4' : ((n : Int) == (k' : Int)) = false := by simp; omega
    clear h4
    go_wp2
    go_ret
    exact ⟨rfl, Below.refl _ _⟩
  subst h4
  by_cases h5 : k < 0
  · go_wp2
    go_ret
    exact ⟨rfl, Below.refl _ _⟩
  by_cases h6 : (n : Int) < k
  · go_wp2
    go_ret
    exact ⟨rfl, Below.refl _ _⟩
  obtain ⟨kk, rfl⟩ := Int.eq_ofNat_of_zero_le (show 0 ≤ k by omega)
  have hkn : kk ≤ n := by omega
  clear h5 h6 C5 C6 hn hk hxs
  go_wp2_with fail
  refine (build_any sa n sc ma mc sb so mb mo ss ms w (by omega) HSA.out HS.out HMA.out HM.out).mono ?_
  rintro e w1 ⟨rfl, hS, hB⟩
  have hLie : Lie w.heap.size w1.heap.size (stm ss ms n) (xs, xm) (w1.alloc (.cells #[.string xs, .int .i64 xm] 30)) :=
    ⟨hS.later ((Below.refl _ _).alloc (Nat.le_refl _) _), by simp, by simp⟩
  have hBW : Below w.heap.size w (w1.alloc (.cells #[.string xs, .int .i64 xm] 30)) := hB.alloc hB.size _
  have HL := hide hLie
  have HB := hide hBW
  clear hS hB hLie hBW HSA HS HMA HM
  go_wp2_with (at_make; refine wpList_make_own _ rfl _ _ 26 rfl (w1.heap.size + 1) 30 i0 _ 2 Try.underlying26 hi hz0 hz1 _ _ _ (n + 1) rfl rfl (by omega) (by rw [hz2]; omega) (by simp only [maxLen]; omega) (by simp) ?_; intro w2 hown hgrow)
  rw [World.size_alloc] at hown
  obtain ⟨W1, HL1, HB1, HBW, hsz⟩ : ∃ W1 : World, Hid (Lie w.heap.size w1.heap.size (stm ss ms n) (xs, xm) W1) ∧ Hid (Below w.heap.size w W1) ∧ Hid (Below W1.heap.size W1 w2) ∧ W1.heap.size = w1.heap.size + 1 :=
    ⟨_, HL, HB, (Below.refl _ _).grown hgrow (Nat.le_refl _) (fun k h => by cases h), by simp⟩
  rw [← hsz] at hown ⊢
  have HOW := hide hown
  clear hgrow hsz HL HB h2 h3 hw hown
  generalize hpb : w1.heap.size = xb at *
  clear hpb
  have hLl : (stm ss ms n).length = n := by simp [stm]
  have HLl := hide hLl
  clear hLl
  generalize hLL : stm ss ms n = L at *
  clear hLL
  have hIl := insAt_length L kk (xs, xm) (by rw [HLl.out]; exact hkn)
  rw [HLl.out] at hIl
  have HIl := hide hIl
  clear hIl
  go_loopw [16, 17] (fun v i wr => ∃ j : Nat, j ≤ kk ∧ i = .int .i64 j ∧ v = .slice (some ⟨W1.heap.size, 0, none⟩) j (n + 1) ∧
      wr.ownsRow W1.heap.size 30 2 (.slice (some ⟨W1.heap.size, 0, none⟩) j (n + 1)) j (cellsOf ((insAt L kk (xs, xm)).take j)) ∧ Below W1.heap.size W1 wr) (fun _ i _ => kk - (intOf i).toNat)
  case atStart => exact ⟨0, Nat.zero_le _, rfl, rfl, HOW.out, HBW.out⟩
  case round =>
    obtain ⟨j, hj, rfl, rfl, hO, hB⟩ := hrel
    clear HOW HBW
    by_cases hlt : j < kk
    · have hjL : j < L.length := by rw [HLl.out]; omega
      have hjI : j < (insAt L kk (xs, xm)).length := by rw [HIl.out]; omega
      obtain ⟨c1, c2⟩ := (HL1.out.later hB).1 j hjL
      have hct := cells_take _ j hjI
      rw [insAt_lo L kk (xs, xm) (by rw [HLl.out]; exact hkn) j hlt hjI] at hct
      generalize L[j].1 = s at c1 hct
      generalize L[j].2 = q at c2 hct
      have HCT := hide hct
      have HO := hide hO
      have HB := hide hB
      clear hO hB hct
      simp only [Nat.zero_add] at c1 c2
      go_wp2_with (at_builtin; refine wpList_append_fits _ rfl (.tmp 83) (.tmp 88) 26 rfl W1.heap.size 30 i0 2 Try.underlying26 hi hz1 W1.heap.size j (n + 1) _ rfl (HO.out.alloc _) ⟨wr.heap.size, 0, none⟩ 1 1 [.string s, .int .i64 q] rfl rfl (two_new wr _ _ _ rfl) (two_one _ _) (by omega) ?_; intro w3 hown3 hgrow3)
      have HO3 := hide hown3
      have hB3 : Below W1.heap.size W1 w3 := (HB.out.alloc HB.out.size _).grown hgrow3 (Nat.le_trans HB.out.size (by simp)) (fun k hk => by simp at hk; omega)
      have HB3 := hide hB3
      clear hown3 hgrow3 hB3
      go_wp2
      go_roundw
      case rel => exact ⟨j + 1, by omega, by go_num, by go_num, by rw [HCT.out]; exact HO3.out, HB3.out⟩
      case measure => simp [intOf]; omega
    · have hjk : j = kk := by omega
      subst hjk
      have hjI : j < (insAt L j (xs, xm)).length := by rw [HIl.out]; omega
      have hct := cells_take _ j hjI
      rw [insAt_mid L j (xs, xm) (by rw [HLl.out]; exact hkn) hjI] at hct
      have HCT := hide hct
      obtain ⟨_, x1, x2⟩ := HL1.out.later hB
      have HO := hide hO
      have HB := hide hB
      clear hO hB hct hlt hj hjI
      go_wp2_with (at_builtin; refine wpList_append_fits _ rfl (.tmp 90) (.tmp 92) 26 rfl W1.heap.size 30 i0 2 Try.underlying26 hi hz1 W1.heap.size j (n + 1) _ rfl (HO.out.alloc _) ⟨wr.heap.size, 0, none⟩ 1 1 [.string xs, .int .i64 xm] rfl rfl (two_new wr _ _ _ rfl) (two_one _ _) (by omega) ?_; intro w3 hown3 hgrow3)
      rw [← HCT.out] at hown3
      have HO3 := hide hown3
      have hB3 : Below W1.heap.size W1 w3 := (HB.out.alloc HB.out.size _).grown hgrow3 (Nat.le_trans HB.out.size (by simp)) (fun k hk => by simp at hk; omega)
      have HB3 := hide hB3
      clear hown3 hgrow3 hB3 HO HB HCT x1 x2
      go_wp2
      go_loopw [16, 18] (fun v i wx => ∃ t : Nat, j ≤ t ∧ t ≤ n ∧ i = .int .i64 t ∧ v = .slice (some ⟨W1.heap.size, 0, none⟩) (t + 1) (n + 1) ∧
          wx.ownsRow W1.heap.size 30 2 (.slice (some ⟨W1.heap.size, 0, none⟩) (t + 1) (n + 1)) (t + 1) (cellsOf ((insAt L j (xs, xm)).take (t + 1))) ∧ Below W1.heap.size W1 wx) (fun _ i _ => n - (intOf i).toNat)
      case atStart => exact ⟨j, Nat.le_refl _, hkn, rfl, rfl, HO3.out, HB3.out⟩
      case round =>
        obtain ⟨t, ht1, ht2, rfl, rfl, hO, hB⟩ := hrel
        clear HO3 HB3
        by_cases hlt : t < n
        · have hjL : t < L.length := by rw [HLl.out]; omega
          have hjI : t + 1 < (insAt L j (xs, xm)).length := by rw [HIl.out]; omega
          obtain ⟨c1, c2⟩ := (HL1.out.later hB).1 t hjL
          have hct := cells_take _ (t + 1) hjI
          rw [insAt_hi L j (xs, xm) (by rw [HLl.out]; exact hkn) t ht1 hjL hjI] at hct
          generalize L[t].1 = s at c1 hct
          generalize L[t].2 = q at c2 hct
          have HCT := hide hct
          have HO := hide hO
          have HB := hide hB
          clear hO hB hct
          simp only [Nat.zero_add] at c1 c2
          go_wp2_with (at_builtin; refine wpList_append_fits _ rfl (.tmp 100) (.tmp 105) 26 rfl W1.heap.size 30 i0 2 Try.underlying26 hi hz1 W1.heap.size (t + 1) (n + 1) _ rfl (HO.out.alloc _) ⟨wr.heap.size, 0, none⟩ 1 1 [.string s, .int .i64 q] rfl rfl (two_new wr _ _ _ rfl) (two_one _ _) (by omega) ?_; intro w3 hown3 hgrow3)
          have HO3 := hide hown3
          have hB3 : Below W1.heap.size W1 w3 := (HB.out.alloc HB.out.size _).grown hgrow3 (Nat.le_trans HB.out.size (by simp)) (fun k hk => by simp at hk; omega)
          have HB3 := hide hB3
          clear hown3 hgrow3 hB3
          go_wp2
          go_roundw
          case rel => exact ⟨t + 1, by omega, by omega, by go_num, by go_num, by rw [HCT.out]; exact HO3.out, HB3.out⟩
          case measure => simp [intOf]; omega
        · have htn : t = n := by omega
          subst htn
          obtain ⟨w4, e4⟩ : ∃ w4, w4 = wr := ⟨_, rfl⟩
          subst e4
          have hLie4 := HL1.out.later hB
          rw [List.take_of_length_le (by rw [HIl.out]; exact Nat.le_refl _)] at hO
          have hSI := stmts_of_owns hO HIl.out
          have hB4 := HB1.out.trans (hB.mono HB1.out.size)
          have HL4 := hide hLie4
          have HSI := hide hSI
          have HB4 := hide hB4
          clear hLie4 hSI hB4 hO hB HL1 HB1 ht1 ht2 hlt
          generalize hgi : W1.heap.size = gi at *
          clear hgi
          have hlf := flt_le (L.take j) m
          have hrf := flt_le (L.drop j) m
          have hff := flt_le L m
          have hIF := flt_le (insAt L j (xs, xm)) m
          rw [HIl.out] at hIF
          rw [HLl.out] at hff
          rw [List.length_take, HLl.out] at hlf
          rw [List.length_drop, HLl.out] at hrf
          obtain ⟨at', hsl, hat⟩ := slice_tail w.heap.size t j hkn
          have HAT := hide hat
          have hsh := slice_head w.heap.size t j hkn
          clear hat
          go_wp2_with fail
          refine (marked_boxed _ _ _ gi 0 (insAt L j (xs, xm)) m w4 (by omega) HIl.out.symm (fun _ => rfl) HSI.out).mono ?_
          rintro e w5 ⟨aW, bW, cW, rfl, hW1, hW2, hB5⟩
          have HW1 := hide hW1
          have HW2 := hide hW2
          have HL5 := hide (HL4.out.later hB5)
          have HB5 := hide (HB4.out.trans (hB5.mono HB4.out.size))
          clear hW1 hW2 hB5 HL4 HSI HB4
          go_wp2_with fail
          refine (marked_boxed _ _ _ w.heap.size 0 (L.take j) m w5 (by omega) (by rw [List.length_take, HLl.out]; omega) (fun _ => rfl) (stmts_take HL5.out.1 j)).mono ?_
          rintro e w6 ⟨aL, bL, cL, rfl, hL1, hL2, hB6⟩
          have HL1' := hide hL1
          have HL2' := hide hL2
          have HW2' := hide (HW2.out.later hB6)
          have HL6 := hide (HL5.out.later hB6)
          have HB6 := hide (HB5.out.trans (hB6.mono HB5.out.size))
          clear hL1 hL2 hB6 HL5 HB5 HW2
          go_wp2_with fail
          refine (marked_boxed _ _ _ w.heap.size (0 + j * 2) (L.drop j) m w6 (by omega) (by rw [List.length_drop, HLl.out]) HAT.out (stmts_drop HL6.out.1 j)).mono ?_
          rintro e w7 ⟨aR, bR, cR, rfl, hR1, hR2, hB7⟩
          have HR1 := hide hR1
          have HR2 := hide hR2
          have HW7 := hide (HW2'.out.later hB7)
          have HLf7 := hide (HL2'.out.later hB7)
          have HL7 := hide (HL6.out.later hB7)
          have HB7 := hide (HB6.out.trans (hB7.mono HB6.out.size))
          clear hR1 hR2 hB7 HL6 HB6 HW2' HL2'
          go_wp2_with fail
          refine (marked_boxed _ _ _ w.heap.size 0 L m w7 (by omega) HLl.out.symm (fun _ => rfl) HL7.out.1).mono ?_
          rintro e w8 ⟨aF, bF, cF, rfl, hF1, hF2, hB8⟩
          have HF1 := hide hF1
          have HF2 := hide hF2
          have HW8 := hide (HW7.out.later hB8)
          have HLf8 := hide (HLf7.out.later hB8)
          have HR8 := hide (HR2.out.later hB8)
          have HL8 := hide (HL7.out.later hB8)
          have HB8 := hide (HB7.out.trans (hB8.mono HB7.out.size))
          clear hF1 hF2 hB8 HL7 HB7 HW7 HLf7 HR2 HAT hsl hsh
          have hE1 := flt_insAt L j (xs, xm) m
          have hE2 := flt_cut L j m
          generalize flt (insAt L j (xs, xm)) m = IF at *
          generalize flt (L.take j) m = lf at *
          generalize flt (L.drop j) m = rf at *
          generalize flt L m = ff at *
          have HE1 := hide hE1
          have HE2 := hide hE2
          clear hE1 hE2
          go_wp2_with (first | (at_make; refine wpList_make_own _ rfl _ (.tmp 137) 26 rfl w8.heap.size 30 i0 _ 2 Try.underlying26 hi hz0 hz1 _ _ _ (lf.length + rf.length + 1) rfl rfl (by omega) (by rw [hz2]; omega) (by simp only [maxLen]; omega) (by simp) ?_; intro w9 hown9 hgrow9) | (at_make; refine wpList_make_own _ rfl _ (.tmp 143) 26 rfl w8.heap.size 30 i0 _ 2 Try.underlying26 hi hz0 hz1 _ _ _ (lf.length + rf.length) rfl rfl (by omega) (by rw [hz2]; omega) (by simp only [maxLen]; omega) hgrow9.size ?_; intro w10 hown10 hgrow10))
          have hgg : w8.heap.size < w9.heap.size := (hown9.lt _ rfl).2
          have hO9 := hown9.kept hgrow10 (.inr (by simp [Value.ownBlock]))
          have hB10 : Below w8.heap.size w8 w10 := ((Below.refl _ _).grown hgrow9 (Nat.le_refl _) (fun k h => by cases h)).grown hgrow10 hgrow9.size (fun k h => by cases h)
          have HOw := hide hO9
          have HOc := hide hown10
          have HB10 := hide hB10
          clear hown9 hgrow9 hown10 hgrow10 hO9 hB10
          generalize hgc : w9.heap.size = gc at *
          clear hgc
          go_loopw [24, 25, 26] (fun v u i wx => ∃ y : Nat, y ≤ lf.length ∧ i = .int .i64 y ∧ v = .slice (some ⟨w8.heap.size, 0, none⟩) y (lf.length + rf.length + 1) ∧ u = .slice (some ⟨gc, 0, none⟩) y (lf.length + rf.length) ∧
              wx.ownsRow w8.heap.size 30 2 (.slice (some ⟨w8.heap.size, 0, none⟩) y (lf.length + rf.length + 1)) y (cellsOf (lf.take y)) ∧ wx.ownsRow w8.heap.size 30 2 (.slice (some ⟨gc, 0, none⟩) y (lf.length + rf.length)) y (cellsOf (lf.take y)) ∧ Below w8.heap.size w8 wx) (fun _ _ i _ => lf.length - (intOf i).toNat)
          case atStart => exact ⟨0, Nat.zero_le _, rfl, rfl, rfl, HOw.out, HOc.out, HB10.out⟩
          case round =>
            obtain ⟨y, hy, rfl, rfl, rfl, hO1, hO2, hB⟩ := hrel
            clear HOw HOc HB10
            by_cases hlt : y < lf.length
            · obtain ⟨c1, c2⟩ := (HLf8.out.later hB) y hlt
              have hct := cells_take lf y hlt
              obtain rfl := HL1'.out (by omega)
              generalize hs : lf[y].1 = s at c1 hct
              generalize hq : lf[y].2 = q at c2 hct
              have HCT := hide hct
              have HO1 := hide hO1
              have HO2 := hide hO2
              have HB := hide hB
              have HC : Hid (∀ wx, Below w8.heap.size w8 wx → wx.cell? ⟨bL, y * 2, none⟩ = some (.string s) ∧ wx.cell? ⟨bL, y * 2 + 1, none⟩ = some (.int .i64 q)) := by
                intro wx hx
                obtain ⟨d1, d2⟩ := (HLf8.out.later hx) y hlt
                rw [hs, Nat.zero_add] at d1
                rw [hq, Nat.zero_add] at d2
                exact ⟨d1, d2⟩
              clear hO1 hO2 hB hct hs hq
              simp only [Nat.zero_add] at c1 c2
              go_wp2_with (first | (at_builtin; refine wpList_append_fits _ rfl (.tmp 151) (.tmp 156) 26 rfl w8.heap.size 30 i0 2 Try.underlying26 hi hz1 w8.heap.size y (lf.length + rf.length + 1) _ rfl (HO1.out.alloc _) ⟨wr.heap.size, 0, none⟩ 1 1 [.string s, .int .i64 q] rfl rfl (two_new wr _ _ _ rfl) (two_one _ _) (by omega) ?_; intro w3 hown3 hgrow3; have HB3 := hide (below_append HB.out HB.out.size hgrow3 (Nat.le_refl _)); have HO3 := hide hown3; have HK3 := hide (other_kept HO2.out hgrow3 (by omega)); clear hown3 hgrow3 c1 c2; obtain ⟨c1, c2⟩ := HC.out w3 HB3.out) | (at_builtin; refine wpList_append_fits _ rfl (.tmp 158) (.tmp 163) 26 rfl w8.heap.size 30 i0 2 Try.underlying26 hi hz1 gc y (lf.length + rf.length) _ rfl (HK3.out.alloc _) ⟨w3.heap.size, 0, none⟩ 1 1 [.string s, .int .i64 q] rfl rfl (two_new w3 _ _ _ rfl) (two_one _ _) (by omega) ?_; intro w5 hown5 hgrow5; have HB5 := hide (below_append HB3.out HB3.out.size hgrow5 (Nat.le_of_lt hgg)); have HO5 := hide hown5; have HK5 := hide (other_kept HO3.out hgrow5 (by omega)); clear hown5 hgrow5))
              go_roundw
              case rel => exact ⟨y + 1, by omega, by go_num, rfl, rfl, by rw [HCT.out]; exact HK5.out, by rw [HCT.out]; exact HO5.out, HB5.out⟩
              case measure => simp [intOf]; omega
            · have hyl : y = lf.length := by omega
              subst hyl
              obtain ⟨wz, ez⟩ : ∃ wz, wz = wr := ⟨_, rfl⟩
              subst ez
              rw [List.take_of_length_le (Nat.le_refl _)] at hO1 hO2
              obtain ⟨_, x1, x2⟩ := HL8.out.later hB
              have HPw := hide hO1
              have HPc := hide hO2
              have HPB := hide hB
              clear hO1 hO2 hB hlt hy
              cases hxm : (xm == m)
              · have HXm := hide hxm
                clear x1 x2
                go_wp2
                go_loopw [24, 25, 27] (fun v u i wx => ∃ y : Nat, y ≤ rf.length ∧ i = .int .i64 y ∧ v = .slice (some ⟨w8.heap.size, 0, none⟩) (lf.length + y) (lf.length + rf.length + 1) ∧ u = .slice (some ⟨gc, 0, none⟩) (lf.length + y) (lf.length + rf.length) ∧
                    wx.ownsRow w8.heap.size 30 2 (.slice (some ⟨w8.heap.size, 0, none⟩) (lf.length + y) (lf.length + rf.length + 1)) (lf.length + y) (cellsOf lf ++ cellsOf (rf.take y)) ∧ wx.ownsRow w8.heap.size 30 2 (.slice (some ⟨gc, 0, none⟩) (lf.length + y) (lf.length + rf.length)) (lf.length + y) (cellsOf lf ++ cellsOf (rf.take y)) ∧ Below w8.heap.size w8 wx) (fun _ _ i _ => rf.length - (intOf i).toNat)
                case atStart => exact ⟨0, Nat.zero_le _, rfl, rfl, rfl, by rw [show cellsOf (rf.take 0) = [] from rfl, List.append_nil]; exact HPw.out, by rw [show cellsOf (rf.take 0) = [] from rfl, List.append_nil]; exact HPc.out, HPB.out⟩
                case round =>
                  obtain ⟨y, hy, rfl, rfl, rfl, hO1, hO2, hB⟩ := hrel
                  clear HPw HPc HPB
                  by_cases hlt : y < rf.length
                  · obtain ⟨c1, c2⟩ := (HR8.out.later hB) y hlt
                    have hct := cells_take rf y hlt
                    obtain rfl := HR1.out (by omega)
                    generalize hs : rf[y].1 = s at c1 hct
                    generalize hq : rf[y].2 = q at c2 hct
                    have HCT := hide hct
                    have HO1 := hide hO1
                    have HO2 := hide hO2
                    have HB := hide hB
                    have HC : Hid (∀ wx, Below w8.heap.size w8 wx → wx.cell? ⟨bR, y * 2, none⟩ = some (.string s) ∧ wx.cell? ⟨bR, y * 2 + 1, none⟩ = some (.int .i64 q)) := by
                      intro wx hx
                      obtain ⟨d1, d2⟩ := (HR8.out.later hx) y hlt
                      rw [hs, Nat.zero_add] at d1
                      rw [hq, Nat.zero_add] at d2
                      exact ⟨d1, d2⟩
                    clear hO1 hO2 hB hct hs hq
                    simp only [Nat.zero_add] at c1 c2
                    go_wp2_with (first | (at_builtin; refine wpList_append_fits _ rfl (.tmp 178) (.tmp 183) 26 rfl w8.heap.size 30 i0 2 Try.underlying26 hi hz1 w8.heap.size (lf.length + y) (lf.length + rf.length + 1) _ rfl (HO1.out.alloc _) ⟨wr.heap.size, 0, none⟩ 1 1 [.string s, .int .i64 q] rfl rfl (two_new wr _ _ _ rfl) (two_one _ _) (by omega) ?_; intro w3 hown3 hgrow3; have HB3 := hide (below_append HB.out HB.out.size hgrow3 (Nat.le_refl _)); have HO3 := hide hown3; have HK3 := hide (other_kept HO2.out hgrow3 (by omega)); clear hown3 hgrow3 c1 c2; obtain ⟨c1, c2⟩ := HC.out w3 HB3.out) | (at_builtin; refine wpList_append_fits _ rfl (.tmp 185) (.tmp 190) 26 rfl w8.heap.size 30 i0 2 Try.underlying26 hi hz1 gc (lf.length + y) (lf.length + rf.length) _ rfl (HK3.out.alloc _) ⟨w3.heap.size, 0, none⟩ 1 1 [.string s, .int .i64 q] rfl rfl (two_new w3 _ _ _ rfl) (two_one _ _) (by omega) ?_; intro w5 hown5 hgrow5; have HB5 := hide (below_append HB3.out HB3.out.size hgrow5 (Nat.le_of_lt hgg)); have HO5 := hide hown5; have HK5 := hide (other_kept HO3.out hgrow5 (by omega)); clear hown5 hgrow5))
                    go_roundw
                    case rel => exact ⟨y + 1, by omega, by go_num, rfl, rfl, by rw [HCT.out, ← List.append_assoc]; exact HK5.out, by rw [HCT.out, ← List.append_assoc]; exact HO5.out, HB5.out⟩
                    case measure => simp [intOf]; omega
                  · have hyr : y = rf.length := by omega
                    subst hyr
                    obtain ⟨w11, e11⟩ : ∃ w11, w11 = wr := ⟨_, rfl⟩
                    subst e11
                    rw [List.take_of_length_le (Nat.le_refl _), ← cellsOf_append] at hO1 hO2
                    have hIFe : lf ++ rf = IF := by rw [HE1.out]; simp [HXm.out]
                    rw [hIFe] at hO1
                    rw [← HE2.out] at hO2
                    have hl1 : IF.length = lf.length + rf.length := by rw [← hIFe]; simp
                    have hl2 : ff.length = lf.length + rf.length := by rw [HE2.out]; simp
                    have S1 := hide (stmts_of_owns hO1 hl1)
                    have S2 := hide (stmts_of_owns hO2 hl2)
                    have SW := hide (HW8.out.later hB)
                    have SF := hide (HF2.out.later hB)
                    have HBf := hide (HB8.out.trans (hB.mono HB8.out.size))
                    have HLen := hide (And.intro hl1 hl2)
                    clear hO1 hO2 hB hl1 hl2 hIFe hy hlt
                    go_wp2_with fail
                    refine (eq_same2 _ _ IF.length _ _ _ bW 0 w8.heap.size 0 IF w11 (by omega) rfl HLen.out.1.symm HW1.out SW.out (fun _ => rfl) S1.out).mono ?_
                    rintro e w12 ⟨rfl, q, hw12⟩
                    have hB12 : Below w11.heap.size w11 w12 := by rw [hw12]; exact below_drewN (Below.refl _ _) _
                    have S2' := hide (S2.out.later hB12)
                    have SF' := hide (SF.out.later hB12)
                    have HBf' := hide (HBf.out.trans (hB12.mono HBf.out.size))
                    clear hw12 hB12
                    go_wp2_with fail
                    refine (eq_same2 _ _ ff.length _ _ _ bF 0 gc 0 ff w12 (by omega) rfl HLen.out.2.symm HF1.out SF'.out (fun _ => rfl) S2'.out).mono ?_
                    rintro e w13 ⟨rfl, q2, hw13⟩
                    have HBz : Hid (Below w.heap.size w w13) := by rw [hw13]; exact below_drewN HBf'.out _
                    clear hw13
                    go_wp2
                    go_ret
                    exact ⟨rfl, HBz.out⟩
              · have HXm := hide hxm
                go_wp2_with (at_builtin; refine wpList_append_fits _ rfl (.tmp 168) (.tmp 170) 26 rfl w8.heap.size 30 i0 2 Try.underlying26 hi hz1 w8.heap.size lf.length (lf.length + rf.length + 1) _ rfl (HPw.out.alloc _) ⟨wz.heap.size, 0, none⟩ 1 1 [.string xs, .int .i64 xm] rfl rfl (two_new wz _ _ _ rfl) (two_one _ _) (by omega) ?_; intro w3 hown3 hgrow3; have HB3 := hide (below_append HPB.out HPB.out.size hgrow3 (Nat.le_refl _)); have HO3 := hide hown3; have HK3 := hide (other_kept HPc.out hgrow3 (by omega)); clear hown3 hgrow3)
                clear HPw HPc HPB x1 x2
                have HPw : Hid (w3.ownsRow w8.heap.size 30 2 (.slice (some ⟨w8.heap.size, 0, none⟩) (lf.length + 1) (lf.length + rf.length + 1)) (lf.length + 1) (cellsOf (lf ++ [(xs, xm)]))) := by
                  rw [cellsOf_append]; exact HO3.out
                have HPc := HK3
                have HPB := HB3
                clear HO3 HK3 HB3
                go_loopw [24, 25, 27] (fun v u i wx => ∃ y : Nat, y ≤ rf.length ∧ i = .int .i64 y ∧ v = .slice (some ⟨w8.heap.size, 0, none⟩) ((lf.length + 1) + y) (lf.length + rf.length + 1) ∧ u = .slice (some ⟨gc, 0, none⟩) (lf.length + y) (lf.length + rf.length) ∧
                    wx.ownsRow w8.heap.size 30 2 (.slice (some ⟨w8.heap.size, 0, none⟩) ((lf.length + 1) + y) (lf.length + rf.length + 1)) ((lf.length + 1) + y) (cellsOf (lf ++ [(xs, xm)]) ++ cellsOf (rf.take y)) ∧ wx.ownsRow w8.heap.size 30 2 (.slice (some ⟨gc, 0, none⟩) (lf.length + y) (lf.length + rf.length)) (lf.length + y) (cellsOf lf ++ cellsOf (rf.take y)) ∧ Below w8.heap.size w8 wx) (fun _ _ i _ => rf.length - (intOf i).toNat)
                case atStart => exact ⟨0, Nat.zero_le _, rfl, rfl, rfl, by rw [show cellsOf (rf.take 0) = [] from rfl, List.append_nil]; exact HPw.out, by rw [show cellsOf (rf.take 0) = [] from rfl, List.append_nil]; exact HPc.out, HPB.out⟩
                case round =>
                  obtain ⟨y, hy, rfl, rfl, rfl, hO1, hO2, hB⟩ := hrel
                  clear HPw HPc HPB
                  by_cases hlt : y < rf.length
                  · obtain ⟨c1, c2⟩ := (HR8.out.later hB) y hlt
                    have hct := cells_take rf y hlt
                    obtain rfl := HR1.out (by omega)
                    generalize hs : rf[y].1 = s at c1 hct
                    generalize hq : rf[y].2 = q at c2 hct
                    have HCT := hide hct
                    have HO1 := hide hO1
                    have HO2 := hide hO2
                    have HB := hide hB
                    have HC : Hid (∀ wx, Below w8.heap.size w8 wx → wx.cell? ⟨bR, y * 2, none⟩ = some (.string s) ∧ wx.cell? ⟨bR, y * 2 + 1, none⟩ = some (.int .i64 q)) := by
                      intro wx hx
                      obtain ⟨d1, d2⟩ := (HR8.out.later hx) y hlt
                      rw [hs, Nat.zero_add] at d1
                      rw [hq, Nat.zero_add] at d2
                      exact ⟨d1, d2⟩
                    clear hO1 hO2 hB hct hs hq
                    simp only [Nat.zero_add] at c1 c2
                    go_wp2_with (first | (at_builtin; refine wpList_append_fits _ rfl (.tmp 178) (.tmp 183) 26 rfl w8.heap.size 30 i0 2 Try.underlying26 hi hz1 w8.heap.size ((lf.length + 1) + y) (lf.length + rf.length + 1) _ rfl (HO1.out.alloc _) ⟨wr.heap.size, 0, none⟩ 1 1 [.string s, .int .i64 q] rfl rfl (two_new wr _ _ _ rfl) (two_one _ _) (by omega) ?_; intro w3 hown3 hgrow3; have HB3 := hide (below_append HB.out HB.out.size hgrow3 (Nat.le_refl _)); have HO3 := hide hown3; have HK3 := hide (other_kept HO2.out hgrow3 (by omega)); clear hown3 hgrow3 c1 c2; obtain ⟨c1, c2⟩ := HC.out w3 HB3.out) | (at_builtin; refine wpList_append_fits _ rfl (.tmp 185) (.tmp 190) 26 rfl w8.heap.size 30 i0 2 Try.underlying26 hi hz1 gc (lf.length + y) (lf.length + rf.length) _ rfl (HK3.out.alloc _) ⟨w3.heap.size, 0, none⟩ 1 1 [.string s, .int .i64 q] rfl rfl (two_new w3 _ _ _ rfl) (two_one _ _) (by omega) ?_; intro w5 hown5 hgrow5; have HB5 := hide (below_append HB3.out HB3.out.size hgrow5 (Nat.le_of_lt hgg)); have HO5 := hide hown5; have HK5 := hide (other_kept HO3.out hgrow5 (by omega)); clear hown5 hgrow5))
                    go_roundw
                    case rel => exact ⟨y + 1, by omega, by go_num, rfl, rfl, by rw [HCT.out, ← List.append_assoc]; exact HK5.out, by rw [HCT.out, ← List.append_assoc]; exact HO5.out, HB5.out⟩
                    case measure => simp [intOf]; omega
                  · have hyr : y = rf.length := by omega
                    subst hyr
                    obtain ⟨w11, e11⟩ : ∃ w11, w11 = wr := ⟨_, rfl⟩
                    subst e11
                    rw [List.take_of_length_le (Nat.le_refl _), ← cellsOf_append] at hO1 hO2
                    have hIFe : (lf ++ [(xs, xm)]) ++ rf = IF := by rw [HE1.out]; simp [HXm.out]
                    rw [hIFe] at hO1
                    rw [← HE2.out] at hO2
                    have hl1 : IF.length = (lf.length + 1) + rf.length := by rw [← hIFe]; simp; omega
                    have hl2 : ff.length = lf.length + rf.length := by rw [HE2.out]; simp
                    have S1 := hide (stmts_of_owns hO1 hl1)
                    have S2 := hide (stmts_of_owns hO2 hl2)
                    have SW := hide (HW8.out.later hB)
                    have SF := hide (HF2.out.later hB)
                    have HBf := hide (HB8.out.trans (hB.mono HB8.out.size))
                    have HLen := hide (And.intro hl1 hl2)
                    clear hO1 hO2 hB hl1 hl2 hIFe hy hlt
                    go_wp2_with fail
                    refine (eq_same2 _ _ IF.length _ _ _ bW 0 w8.heap.size 0 IF w11 (by omega) rfl HLen.out.1.symm HW1.out SW.out (fun _ => rfl) S1.out).mono ?_
                    rintro e w12 ⟨rfl, q, hw12⟩
                    have hB12 : Below w11.heap.size w11 w12 := by rw [hw12]; exact below_drewN (Below.refl _ _) _
                    have S2' := hide (S2.out.later hB12)
                    have SF' := hide (SF.out.later hB12)
                    have HBf' := hide (HBf.out.trans (hB12.mono HBf.out.size))
                    clear hw12 hB12
                    go_wp2_with fail
                    refine (eq_same2 _ _ ff.length _ _ _ bF 0 gc 0 ff w12 (by omega) rfl HLen.out.2.symm HF1.out SF'.out (fun _ => rfl) S2'.out).mono ?_
                    rintro e w13 ⟨rfl, q2, hw13⟩
                    have HBz : Hid (Below w.heap.size w w13) := by rw [hw13]; exact below_drewN HBf'.out _
                    clear hw13
                    go_wp2
                    go_ret
                    exact ⟨rfl, HBz.out⟩
end Go.Proofs.Qxb6630627a
