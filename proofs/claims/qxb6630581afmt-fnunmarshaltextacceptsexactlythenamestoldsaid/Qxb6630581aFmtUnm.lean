/-
  THE CONTRACT OF '(*Reason).UnmarshalText' WHERE THE TEXT IS A NAME.
-/
import Derived.Test.Qxb6630581aFmtNames
import Derived.WalkKit
import Derived.BigQuiet
import Derived.Deep.RegionWith
import Derived.WalkSpells
namespace Go.Proofs.Qxb6630581aFmt
open Go.RowKit

set_option maxHeartbeats 400000 in
theorem unm_hit (a : Option Addr) (len cap : Nat) (t : ByteArray) (p : Addr) (old : Value) (w : World) (k : Nat) (h1 : 1 ≤ k) (h2 : k ≤ 11) (HT : Hid (t = nameOf k))
    (hconv : ∀ n, (convert 27 9 (.slice a len cap)).run Tryf.prog (w.drewN n) = .ok (.string t) (w.drewN n)) (hp : w.cell? p = some old) (hf : w.frozen? p = false) :
    Calls Tryf.prog 6 #[.pointer (some p), .slice a len cap] w fun e w' => e = .returned .nilIface ∧ ∃ n, w' = (w.drewN n).setCell p (.int .i64 (k : Int)) := by
  go_enter Tryf.func6, Tryf.ntmps6
  go_wp2
  go_loopw [5] (fun v wr => ∃ j : Nat, 1 ≤ j ∧ j ≤ k ∧ v = .int .i64 j ∧ ∃ n, wr = w.drewN n) (fun v _ => 11 - (intOf v).toNat)
  case atStart => exact ⟨1, by omega, by omega, rfl, 0, rfl⟩
  case round =>
    obtain ⟨j, hj1, hj2, rfl, n, hw⟩ := hrel
    have hconv' : ∀ m, (convert 27 9 (.slice a len cap)).run Tryf.prog (wr.drewN m) = .ok (.string t) (wr.drewN m) := fun m => by
      rw [hw, World.drewN_drewN]; exact hconv _
    have hp' : wr.cell? p = some old := by rw [hw]; exact hp
    have hf' : wr.frozen? p = false := by rw [hw]; exact hf
    have HW : Hid (wr = w.drewN n) := hw
    clear hw hconv hp hf
    by_cases hjk : j = k
    · have HJ : Hid (j = k) := hjk
      clear hjk
      have ht : (t.toList == (nameOf j).toList) = true := (same_iff _ _).2 (by rw [HT.out, HJ.out])
      go_wp2
      go_quiet ((go_at_call 5; exact Calls.quiet_of_same (string_any _ (by omega) (by omega) _)))
      go_wp2
      go_ret
      exact ⟨rfl, n + nq, by rw [HW.out, World.drewN_drewN, HJ.out]⟩
    · have ht : (t.toList == (nameOf j).toList) = false := not_same _ _ (by
        rw [HT.out]
        exact fun h => hjk (name_inj _ _ (by omega) (by omega) (by omega) (by omega) h).symm)
      go_wp2
      go_quiet ((go_at_call 5; exact Calls.quiet_of_same (string_any _ (by omega) (by omega) _)))
      go_wp2
      go_roundw
      case rel => exact ⟨j + 1, by omega, by omega, by go_num, n + nq, by rw [HW.out, World.drewN_drewN]⟩
      case measure => simp [intOf]; omega
end Go.Proofs.Qxb6630581aFmt
