/-
  THE CONTRACT OF 'eqStmts' WHERE BOTH ROWS HOLD THE SAME STATEMENTS; what 'base[k:]' and 'base[:k]' are.
-/
import Derived.Test.Qxb6630627aMarked
namespace Go.Proofs.Qxb6630627a
open Go.RowKit

set_option maxHeartbeats 400000 in
theorem eq_same (a1 a2 : Option Addr) (n c1 c2 b1 o1 b2 o2 : Nat) (A : List (ByteArray × Int)) (w : World) (hn : n ≤ 200000) (hA : n = A.length)
    (h1 : 0 < n → a1 = some ⟨b1, o1, none⟩) (hS1 : Stmts w b1 o1 A) (h2 : 0 < n → a2 = some ⟨b2, o2, none⟩) (hS2 : Stmts w b2 o2 A) :
    Calls Try.prog 9 #[.slice a1 n c1, .slice a2 n c2] w fun e w' => e = .returned (.bool true) ∧ ∃ q, w' = w.drewN q := by
  have HA := hide hA
  have HS1 := hide hS1
  have HS2 := hide hS2
  clear hA hS1 hS2
  go_enter Try.func9, Try.ntmps9
  go_wp2
  go_loopw [5] (fun i wr => ∃ j : Nat, j ≤ n ∧ i = .int .i64 j ∧ ∃ q, wr = w.drewN q) (fun i _ => n - (intOf i).toNat)
  case atStart => exact ⟨0, Nat.zero_le _, rfl, 0, rfl⟩
  case round =>
    obtain ⟨j, hj, rfl, q, rfl⟩ := hrel
    by_cases hlt : j < n
    · have hjA : j < A.length := by rw [← HA.out]; exact hlt
      obtain ⟨x1, x2⟩ := HS1.out j hjA
      obtain ⟨y1, y2⟩ := HS2.out j hjA
      obtain rfl := h1 (by omega)
      obtain rfl := h2 (by omega)
      generalize A[j].1 = s at x1 y1
      generalize A[j].2 = z at x2 y2
      clear h1 h2
      have hss : (s.toList == s.toList) = true := by simp
      have hzz : (z == z) = true := by simp
      go_wp2
      go_quiet (fail)
      go_wp2
      go_roundw
      case rel => exact ⟨j + 1, by omega, by go_num, _, rfl⟩
      case measure => simp [intOf]; omega
    · clear h1 h2
      go_wp2
      go_ret
      exact ⟨rfl, _, rfl⟩

theorem slice_tail (b n k : Nat) (hk : k ≤ n) : ∃ ao : Option Addr, (∀ W, (Instr.slice 26 (.slice (some ⟨b, 0, none⟩) n n) (some (.int .i64 (k : Int))) none none).run Try.prog W = .ok (.slice ao (n - k) (n - k)) W) ∧ (0 < n - k → ao = some ⟨b, 0 + k * 2, none⟩) := by
  have hs : ∀ W, (sizeOf (Try.prog.elem 26)).run Try.prog W = .ok 2 W := fun W => by kernel_rfl
  have hu : Try.prog.underlying 26 = some (.slice (Try.prog.elem 26)) := by kernel_rfl
  by_cases e : n = k
  · refine ⟨some ⟨b, 0, none⟩, fun W => ?_, fun h => by omega⟩
    rw [run_slice_l W 26 _ n n hu .i64 k (by omega) (by omega), hs]
    simp [Result.andThen, sliced, e]
  · refine ⟨some ⟨b, 0 + k * 2, none⟩, fun W => ?_, fun _ => rfl⟩
    rw [run_slice_l W 26 _ n n hu .i64 k (by omega) (by omega), hs]
    have ha : (⟨b, 0, none⟩ : Addr).add (k * 2) = ⟨b, 0 + k * 2, none⟩ := by unfold Addr.add; split <;> simp_all
    simp only [Result.andThen, sliced, Int.toNat_natCast, if_neg e, Option.map_some, ha]
theorem slice_head (b n k : Nat) (hk : k ≤ n) : ∀ W, (Instr.slice 26 (.slice (some ⟨b, 0, none⟩) n n) none (some (.int .i64 (k : Int))) none).run Try.prog W = .ok (.slice (some ⟨b, 0, none⟩) k n) W := by
  have hs : ∀ W, (sizeOf (Try.prog.elem 26)).run Try.prog W = .ok 2 W := fun W => by kernel_rfl
  have hu : Try.prog.underlying 26 = some (.slice (Try.prog.elem 26)) := by kernel_rfl
  intro W
  rw [run_slice_h W 26 _ n n hu .i64 k (by omega) (by omega), hs]
  simp [Result.andThen, sliced, Addr.add]
end Go.Proofs.Qxb6630627a
