/-
  THE CONTRACTS OF THE LAW's OWN BOUNDS (functions 5, 6, 10): each returns some bool; the world stands as it stood.
-/
import Derived.Test.Qxb6630627aRows
import Derived.WalkKit
import Derived.WalkSpells
import Derived.WalkSmall
namespace Go.Proofs.Qxb6630627a
open Go.RowKit

theorem hide {p : Prop} (h : p) : Hid p := h
/-- A bool came back. -/
def SomeBool (e : Ending) : Prop := ∃ b : Bool, e = .returned (.bool b)

set_option maxHeartbeats 400000 in
theorem size_any (sa : Option Addr) (n sc : Nat) (ma : Option Addr) (k mc : Nat) (x : Int) (sb so : Nat) (ss : List ByteArray) (w : World) (hn : n ≤ maxLen)
    (hsa : 0 < n → sa = some ⟨sb, so, none⟩) (hs : ∀ i, i < n → w.cell? ⟨sb, so + i, none⟩ = some (.string (ss.getD i ByteArray.empty))) :
    Calls Try.prog 6 #[.slice sa n sc, .slice ma k mc, .int .i64 x] w fun e w' => SomeBool e ∧ w' = w := by
  unfold maxLen at hn
  go_enter Try.func6, Try.ntmps6
  go_wp2
  · go_ret
    exact ⟨⟨_, rfl⟩, rfl⟩
  go_loop [7, 8] (fun t i => ∃ (j : Nat) (y : Int), j ≤ n ∧ i = .int .i64 j ∧ t = .int .i64 y) (fun _ i => n - (intOf i).toNat)
  case atStart => exact ⟨0, _, Nat.zero_le _, rfl, rfl⟩
  case round =>
    obtain ⟨j, y, hj, rfl, rfl⟩ := hrel
    by_cases hlt : j < n
    · have hc := hs j hlt
      obtain rfl := hsa (by omega)
      clear hs hsa
      go_wp2
      · go_ret
        exact ⟨⟨_, rfl⟩, rfl⟩
      · go_round
        case rel => exact ⟨j + 1, _, by omega, by go_num, rfl⟩
        case measure => simp [intOf]; omega
    · clear hs hsa
      go_wp2
      go_ret
      exact ⟨⟨_, rfl⟩, rfl⟩

set_option maxHeartbeats 400000 in
theorem zz10_any (sa : Option Addr) (n sc : Nat) (ma : Option Addr) (k mc : Nat) (x : Int) (sb so : Nat) (ss : List ByteArray) (w : World) (hn : n ≤ maxLen)
    (hsa : 0 < n → sa = some ⟨sb, so, none⟩) (hs : ∀ i, i < n → w.cell? ⟨sb, so + i, none⟩ = some (.string (ss.getD i ByteArray.empty))) :
    Calls Try.prog 10 #[.slice sa n sc, .slice ma k mc, .int .i64 x] w fun e w' => SomeBool e ∧ w' = w := by
  unfold maxLen at hn
  go_enter Try.func10, Try.ntmps10
  go_wp2
  · go_ret
    exact ⟨⟨_, rfl⟩, rfl⟩
  go_loop [7, 8] (fun t i => ∃ (j : Nat) (y : Int), j ≤ n ∧ i = .int .i64 j ∧ t = .int .i64 y) (fun _ i => n - (intOf i).toNat)
  case atStart => exact ⟨0, _, Nat.zero_le _, rfl, rfl⟩
  case round =>
    obtain ⟨j, y, hj, rfl, rfl⟩ := hrel
    by_cases hlt : j < n
    · have hc := hs j hlt
      obtain rfl := hsa (by omega)
      clear hs hsa
      go_wp2
      · go_ret
        exact ⟨⟨_, rfl⟩, rfl⟩
      · go_ret
        exact ⟨⟨_, rfl⟩, rfl⟩
      · go_round
        case rel => exact ⟨j + 1, _, by omega, by go_num, rfl⟩
        case measure => simp [intOf]; omega
    · clear hs hsa
      go_wp2
      all_goals
        go_ret
        exact ⟨⟨_, rfl⟩, rfl⟩

set_option maxHeartbeats 400000 in
theorem zz5_any (sa : Option Addr) (n sc : Nat) (ma : Option Addr) (k mc : Nat) (xs : ByteArray) (x1 x2 x3 : Int) (sb so : Nat) (ss : List ByteArray) (w : World) (hn : n ≤ maxLen)
    (hsa : 0 < n → sa = some ⟨sb, so, none⟩) (hs : ∀ i, i < n → w.cell? ⟨sb, so + i, none⟩ = some (.string (ss.getD i ByteArray.empty))) :
    Calls Try.prog 5 #[.slice sa n sc, .slice ma k mc, .string xs, .int .i64 x1, .int .i64 x2, .int .i64 x3] w fun e w' => SomeBool e ∧ w' = w := by
  unfold maxLen at hn
  go_enter Try.func5, Try.ntmps5
  go_wp2
  · go_ret
    exact ⟨⟨_, rfl⟩, rfl⟩
  go_loop [13, 14] (fun t i => ∃ (j : Nat) (y : Int), j ≤ n ∧ i = .int .i64 j ∧ t = .int .i64 y) (fun _ i => n - (intOf i).toNat)
  case atStart => exact ⟨0, _, Nat.zero_le _, rfl, rfl⟩
  case round =>
    obtain ⟨j, y, hj, rfl, rfl⟩ := hrel
    by_cases hlt : j < n
    · have hc := hs j hlt
      obtain rfl := hsa (by omega)
      clear hs hsa
      go_wp2
      · go_ret
        exact ⟨⟨_, rfl⟩, rfl⟩
      · go_ret
        exact ⟨⟨_, rfl⟩, rfl⟩
      · go_round
        case rel => exact ⟨j + 1, _, by omega, by go_num, rfl⟩
        case measure => simp [intOf]; omega
    · clear hs hsa
      go_wp2
      all_goals
        go_ret
        exact ⟨⟨_, rfl⟩, rfl⟩
end Go.Proofs.Qxb6630627a
