/-
  THE CONTRACT OF '(Reason).String' at the eleven named reasons. It draws nothing, it makes no memory.
-/
import Derived.Test.Qxb6630581aFmtCards
import Derived.WalkKit
import Derived.Laws.Strings
namespace Go.Proofs.Qxb6630581aFmt
open Go.RowKit

/-- The name that String gives reason k. -/
def nameOf : Nat → ByteArray
  | 1 => ⟨#[102, 105, 101, 108, 100, 115]⟩
  | 2 => ⟨#[98, 105, 100, 100, 101, 114]⟩
  | 3 => ⟨#[107, 105, 110, 100]⟩
  | 4 => ⟨#[99, 111, 100, 101]⟩
  | 5 => ⟨#[114, 97, 116, 101]⟩
  | 6 => ⟨#[110, 111, 110, 99, 111, 109, 112, 101, 116, 105, 116, 105, 118, 101, 45, 114, 97, 116, 101]⟩
  | 7 => ⟨#[113, 117, 97, 110, 116, 105, 116, 121]⟩
  | 8 => ⟨#[108, 101, 118, 101, 108, 115]⟩
  | 9 => ⟨#[100, 117, 112, 108, 105, 99, 97, 116, 101, 45, 114, 97, 116, 101]⟩
  | 10 => ⟨#[110, 111, 116, 45, 97, 45, 119, 105, 110, 110, 101, 114]⟩
  | 11 => ⟨#[110, 111, 45, 97, 100, 100, 105, 116, 105, 111, 110, 97, 108]⟩
  | _ => ByteArray.empty

set_option maxHeartbeats 1600000 in
theorem string_any (k : Nat) (h1 : 1 ≤ k) (h2 : k ≤ 11) (w : World) :
    Calls Tryf.prog 5 #[.int .i64 (k : Int)] w fun e w' => e = .returned (.string (nameOf k)) ∧ w' = w := by
  obtain rfl | rfl | rfl | rfl | rfl | rfl | rfl | rfl | rfl | rfl | rfl : k = 1 ∨ k = 2 ∨ k = 3 ∨ k = 4 ∨ k = 5 ∨ k = 6 ∨ k = 7 ∨ k = 8 ∨ k = 9 ∨ k = 10 ∨ k = 11 := by omega
  all_goals
    go_enter Tryf.func5, Tryf.ntmps5
    go_wp2
    go_ret
    exact ⟨rfl, rfl⟩

theorem name_inj (j k : Nat) (hj1 : 1 ≤ j) (hj2 : j ≤ 11) (hk1 : 1 ≤ k) (hk2 : k ≤ 11) (h : nameOf j = nameOf k) : j = k := by
  obtain rfl | rfl | rfl | rfl | rfl | rfl | rfl | rfl | rfl | rfl | rfl : k = 1 ∨ k = 2 ∨ k = 3 ∨ k = 4 ∨ k = 5 ∨ k = 6 ∨ k = 7 ∨ k = 8 ∨ k = 9 ∨ k = 10 ∨ k = 11 := by omega
  all_goals
    obtain rfl | rfl | rfl | rfl | rfl | rfl | rfl | rfl | rfl | rfl | rfl : j = 1 ∨ j = 2 ∨ j = 3 ∨ j = 4 ∨ j = 5 ∨ j = 6 ∨ j = 7 ∨ j = 8 ∨ j = 9 ∨ j = 10 ∨ j = 11 := by omega
    all_goals first | rfl | (exfalso; revert h; decide)

theorem same_iff (a b : ByteArray) : (a.toList == b.toList) = true ↔ a = b := by
  rw [beq_iff_eq, ByteArray.toList_eq, ByteArray.toList_eq]
  exact ⟨fun h => ByteArray.ext (Array.toList_inj.1 h), fun h => by rw [h]⟩

theorem not_same (a b : ByteArray) (h : a ≠ b) : (a.toList == b.toList) = false := by
  cases hx : (a.toList == b.toList)
  · rfl
  · exact absurd ((same_iff a b).1 hx) h

end Go.Proofs.Qxb6630581aFmt
