/-
  THE CONTRACT OF '(*Reason).UnmarshalText' WHERE THE TEXT IS NO NAME: fmt.Errorf makes an error; nothing that was there is written.
-/
import Derived.Test.Qxb6630581aFmtUnm
import Derived.Test.Qxb6630581aFmtFacts
import Derived.WalkSmall
namespace Go.Proofs.Qxb6630581aFmt
open Go.RowKit Go.Extern.Stop Go.Stop Go.Extern

set_option maxHeartbeats 400000 in
theorem unm_miss (F : Interp) (a : Option Addr) (len cap : Nat) (t : ByteArray) (p : Addr) (w : World) (rd : List UInt8) (hF : F.answers w.tape)
    (hmiss : ∀ j : Nat, 1 ≤ j → j ≤ 11 → t ≠ nameOf j)
    (hconv : ∀ n, (convert 27 9 (.slice a len cap)).run Tryf.prog (w.drewN n) = .ok (.string t) (w.drewN n))
    (hop : ∀ n o, (FmtStop.operand "fmt.errorf" true 113 false (.iface 27 (.slice a len cap))).run Tryf.prog ((w.drewN n).alloc o) = .ok (shape27, rd) ((w.drewN n).alloc o)) :
    Calls Tryf.prog 6 #[.pointer (some p), .slice a len cap] w fun e w' => (∃ q : Addr, e = .returned (.iface 36 (.pointer (some q)))) ∧ Below w.heap.size w w' := by
  go_enter Tryf.func6, Tryf.ntmps6
  go_wp2
  go_loopw [5] (fun v wr => ∃ j : Nat, 1 ≤ j ∧ j ≤ 12 ∧ v = .int .i64 j ∧ ∃ n, wr = w.drewN n) (fun v _ => 12 - (intOf v).toNat)
  case atStart => exact ⟨1, by omega, by omega, rfl, 0, rfl⟩
  case round =>
    obtain ⟨j, hj1, hj2, rfl, n, hw⟩ := hrel
    have hconv' : ∀ m, (convert 27 9 (.slice a len cap)).run Tryf.prog (wr.drewN m) = .ok (.string t) (wr.drewN m) := fun m => by
      rw [hw, World.drewN_drewN]; exact hconv _
    have hop' : ∀ o, (FmtStop.operand "fmt.errorf" true 113 false (.iface 27 (.slice a len cap))).run Tryf.prog (wr.alloc o) = .ok (shape27, rd) (wr.alloc o) := fun o => by
      rw [hw]; exact hop _ _
    have hF1 : F.answers wr.tape := by rw [hw]; exact hF
    have HW : Hid (wr = w.drewN n) := hw
    clear hw hconv hop hF
    by_cases hj : j ≤ 11
    · have ht : (t.toList == (nameOf j).toList) = false := not_same _ _ (hmiss j hj1 hj)
      clear hmiss hop' hF1
      go_wp2
      go_quiet ((go_at_call 5; exact Calls.quiet_of_same (string_any _ (by omega) (by omega) _)))
      go_wp2
      go_roundw
      case rel => exact ⟨j + 1, by omega, by omega, by go_num, n + nq, by rw [HW.out, World.drewN_drewN]⟩
      case measure => simp [intOf]; omega
    · have hF' := answers_open hF1
      have f1 := call10
      have f2 := guard
      have f3 := fmt0r
      have f4 := ptr36
      have f5 := elem36
      clear hmiss hconv' hF1
      go_wp2
      go_ret
      refine ⟨⟨_, rfl⟩, ?_⟩
      have hb : Below w.heap.size w wr := by rw [HW.out]; exact below_drewN (Below.refl _ _) _
      exact ((hb.alloc hb.size _).alloc (Nat.le_trans hb.size (by simp)) _).drew
end Go.Proofs.Qxb6630581aFmt
