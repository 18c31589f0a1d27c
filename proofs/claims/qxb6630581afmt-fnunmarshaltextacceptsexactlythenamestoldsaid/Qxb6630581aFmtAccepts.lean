/-
  THE WALK OF 'FnUnmarshalTextAcceptsExactlyTheNames'.
-/
import Derived.Test.Qxb6630581aFmtMiss
namespace Go.Proofs.Qxb6630581aFmt
open Go.RowKit Go.Extern.Stop Go.Stop Go.Extern

theorem hide {p : Prop} (h : p) : Hid p := h

theorem acc_long (r0 : Int) (a : Option Addr) (len cap : Nat) (w : World) (h : 1048576 < len) (hm : len ≤ maxLen) :
    Calls Tryf.prog 4 #[.int .i64 r0, .slice a len cap] w fun e w' => e = .returned (.bool true) ∧ Below w.heap.size w w' := by
  unfold maxLen at hm
  go_enter Tryf.func4, Tryf.ntmps4
  go_wp2
  go_ret
  exact ⟨rfl, Below.refl _ _⟩

set_option maxHeartbeats 400000 in
theorem acc_hit (r0 : Int) (a : Option Addr) (len cap : Nat) (t : ByteArray) (w : World) (hl : len ≤ 1048576) (k : Nat) (h1 : 1 ≤ k) (h2 : k ≤ 11) (HT : Hid (t = nameOf k))
    (hconv : ∀ wx, Below w.heap.size w wx → (convert 27 9 (.slice a len cap)).run Tryf.prog wx = .ok (.string t) wx) :
    Calls Tryf.prog 4 #[.int .i64 r0, .slice a len cap] w fun e w' => e = .returned (.bool true) ∧ Below w.heap.size w w' := by
  have HC := hide hconv
  clear hconv
  go_enter Tryf.func4, Tryf.ntmps4
  go_wp2_with (first | (go_at_call 7; go_in) | fail)
  refine (unm_hit _ _ _ t _ (.int .i64 r0) _ k h1 h2 HT (fun n => HC _ (below_drewN ((Below.refl _ _).alloc (Nat.le_refl _) _) n)) (by simp) (by simp)).mono ?_
  rintro e w2 ⟨rfl, n, hw2⟩
  have hb2 : Below w.heap.size w w2 := by
    rw [hw2]; exact (below_drewN ((Below.refl _ _).alloc (Nat.le_refl _) _) n).setCell (Nat.le_refl _) _
  have hc2 : w2.cell? ⟨w.heap.size, 0, none⟩ = some (.int .i64 (k : Int)) := by
    rw [hw2]; exact World.cell?_setCell_same' _ _ _ (by simp)
  clear hw2
  go_wp2
  go_loopw [7, 8] (fun nm v wr => ∃ j : Nat, 1 ≤ j ∧ j ≤ 12 ∧ v = .int .i64 j ∧ nm = .bool (decide (k < j)) ∧ ∃ n, wr = w2.drewN n) (fun _ v _ => 12 - (intOf v).toNat)
  case atStart => exact ⟨1, by omega, by omega, rfl, by simp; omega, 0, rfl⟩
  case round =>
    obtain ⟨j, hj1, hj2, rfl, rfl, n, hw⟩ := hrel
    have hbr : Below w.heap.size w wr := by rw [hw]; exact below_drewN hb2 n
    have hconv : ∀ m, (convert 27 9 (.slice a len cap)).run Tryf.prog (wr.drewN m) = .ok (.string t) (wr.drewN m) := fun m => HC _ (below_drewN hbr m)
    have hcr : wr.cell? ⟨w.heap.size, 0, none⟩ = some (.int .i64 (k : Int)) := by rw [hw]; simpa using hc2
    have HW := hide hw
    have HB := hide hbr
    clear hw hb2 hc2 hbr
    by_cases hj : j ≤ 11
    · by_cases hjk : j = k
      · have ht : ((nameOf j).toList == t.toList) = true := (same_iff _ _).2 (by rw [HT.out, hjk])
        have HJ := hide hjk
        clear hjk hcr
        go_wp2
        go_quiet ((go_at_call 5; exact Calls.quiet_of_same (string_any _ (by omega) (by omega) _)))
        go_wp2
        go_roundw
        case rel => exact ⟨j + 1, by omega, by omega, by go_num, by rw [HJ.out]; simp, n + nq, by rw [HW.out, World.drewN_drewN]⟩
        case measure => simp [intOf]; omega
      · have ht : ((nameOf j).toList == t.toList) = false := not_same _ _ (by
          rw [HT.out]
          exact fun h => hjk (name_inj _ _ (by omega) (by omega) (by omega) (by omega) h))
        have hd : decide (k < j + 1) = decide (k < j) := by rw [decide_eq_decide]; omega
        have HD := hide hd
        clear hd hcr
        go_wp2
        go_quiet ((go_at_call 5; exact Calls.quiet_of_same (string_any _ (by omega) (by omega) _)))
        go_wp2
        go_roundw
        case rel => exact ⟨j + 1, by omega, by omega, by go_num, by rw [HD.out], n + nq, by rw [HW.out, World.drewN_drewN]⟩
        case measure => simp [intOf]; omega
    · have hkj : decide (k < j) = true := by simp; omega
      have ht : ((nameOf k).toList == t.toList) = true := (same_iff _ _).2 HT.out.symm
      go_wp2
      go_quiet ((go_at_call 5; exact Calls.quiet_of_same (string_any _ (by omega) (by omega) _)))
      go_wp2
      go_ret
      exact ⟨rfl, below_drewN HB.out _⟩

set_option maxHeartbeats 400000 in
theorem acc_miss (F : Interp) (r0 : Int) (a : Option Addr) (len cap : Nat) (t : ByteArray) (w : World) (rd : List UInt8) (hl : len ≤ 1048576) (hF : F.answers w.tape)
    (hmiss : ∀ j : Nat, 1 ≤ j → j ≤ 11 → t ≠ nameOf j)
    (hconv : ∀ wx, Below w.heap.size w wx → (convert 27 9 (.slice a len cap)).run Tryf.prog wx = .ok (.string t) wx)
    (hop : ∀ wx, Below w.heap.size w wx → (FmtStop.operand "fmt.errorf" true 113 false (.iface 27 (.slice a len cap))).run Tryf.prog wx = .ok (shape27, rd) wx) :
    Calls Tryf.prog 4 #[.int .i64 r0, .slice a len cap] w fun e w' => e = .returned (.bool true) ∧ Below w.heap.size w w' := by
  have HC := hide hconv
  have HO := hide hop
  have HM := hide hmiss
  have HF := hide hF
  clear hconv hop hmiss hF
  go_enter Tryf.func4, Tryf.ntmps4
  go_wp2_with (first | (go_at_call 7; go_in) | fail)
  have hb1 : Below w.heap.size w (w.alloc (.cells #[.int .i64 r0] 22)) := (Below.refl _ _).alloc (Nat.le_refl _) _
  have HB1 := hide hb1
  clear hb1
  refine (unm_miss F _ _ _ t _ (w.alloc (.cells #[.int .i64 r0] 22)) rd HF.out HM.out (fun n => HC.out _ (below_drewN HB1.out n)) (fun n o => HO.out _ ((below_drewN HB1.out n).alloc (by simp) o))).mono ?_
  rintro e w2 ⟨⟨q, rfl⟩, hb⟩
  have hb2 : Below w.heap.size w w2 := HB1.out.trans (hb.mono (by simp))
  have hc2 : w2.cell? ⟨w.heap.size, 0, none⟩ = some (.int .i64 r0) := by
    rw [hb.cell (by simp)]; simp
  clear hb
  go_wp2
  go_loopw [7, 8] (fun nm v wr => ∃ j : Nat, 1 ≤ j ∧ j ≤ 12 ∧ v = .int .i64 j ∧ nm = .bool false ∧ ∃ n, wr = w2.drewN n) (fun _ v _ => 12 - (intOf v).toNat)
  case atStart => exact ⟨1, by omega, by omega, rfl, rfl, 0, rfl⟩
  case round =>
    obtain ⟨j, hj1, hj2, rfl, rfl, n, hw⟩ := hrel
    have hbr : Below w.heap.size w wr := by rw [hw]; exact below_drewN hb2 n
    have hconv : ∀ m, (convert 27 9 (.slice a len cap)).run Tryf.prog (wr.drewN m) = .ok (.string t) (wr.drewN m) := fun m => HC _ (below_drewN hbr m)
    have hcr : wr.cell? ⟨w.heap.size, 0, none⟩ = some (.int .i64 r0) := by rw [hw]; simpa using hc2
    have HW := hide hw
    have HB := hide hbr
    clear hw hb2 hc2 hbr
    by_cases hj : j ≤ 11
    · have ht : ((nameOf j).toList == t.toList) = false := not_same _ _ (fun h => HM.out j hj1 hj h.symm)
      clear hcr
      go_wp2
      go_quiet ((go_at_call 5; exact Calls.quiet_of_same (string_any _ (by omega) (by omega) _)))
      go_wp2
      go_roundw
      case rel => exact ⟨j + 1, by omega, by omega, by go_num, rfl, n + nq, by rw [HW.out, World.drewN_drewN]⟩
      case measure => simp [intOf]; omega
    · go_wp2
      go_ret
      exact ⟨rfl, HB.out⟩

theorem acc_any (F : Interp) (r0 : Int) (a : Option Addr) (len cap : Nat) (t : ByteArray) (w : World) (rd : List UInt8) (hm : len ≤ maxLen) (hF : F.answers w.tape)
    (hconv : ∀ wx, Below w.heap.size w wx → (convert 27 9 (.slice a len cap)).run Tryf.prog wx = .ok (.string t) wx)
    (hop : ∀ wx, Below w.heap.size w wx → (FmtStop.operand "fmt.errorf" true 113 false (.iface 27 (.slice a len cap))).run Tryf.prog wx = .ok (shape27, rd) wx) :
    Calls Tryf.prog 4 #[.int .i64 r0, .slice a len cap] w fun e w' => e = .returned (.bool true) ∧ Below w.heap.size w w' := by
  by_cases hl : len ≤ 1048576
  · by_cases hn : ∃ j : Nat, 1 ≤ j ∧ j ≤ 11 ∧ t = nameOf j
    · obtain ⟨k, h1, h2, ht⟩ := hn
      exact acc_hit r0 a len cap t w hl k h1 h2 ht hconv
    · exact acc_miss F r0 a len cap t w rd hl hF (fun j h1 h2 h => hn ⟨j, h1, h2, h⟩) hconv hop
  · exact acc_long r0 a len cap w (by omega) hm
end Go.Proofs.Qxb6630581aFmt
