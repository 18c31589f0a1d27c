/-
  THE WALK OF 'FnInstancesTileTheirParts' WHERE ONE OF ITS OWN BOUNDS STOPS IT: it returns true at once.
-/
import Derived.Test.Qxb6625802aMono
namespace Go.Proofs.Qxb6625802a
open Go.RowKit

/-- The law's own bounds. -/
def InBounds (n0 n1 n2 n3 n4 : Nat) : Prop := n0 ≤ 65536 ∧ n1 ≤ 65536 ∧ n2 ≤ 65536 ∧ n3 ≤ 65536 ∧ n4 ≤ 65536 ∧ n0 + n1 + n2 + n3 + n4 ≤ 131072 ∧ n1 = n2 ∧ n3 = n4

set_option maxRecDepth 100000 in
set_option maxHeartbeats 4000000 in
theorem tile_early (a0 a1 a2 a3 a4 : Option Addr) (n0 n1 n2 n3 n4 c0 c1 c2 c3 c4 : Nat) (w : World) (m0 : n0 ≤ maxLen) (m1 : n1 ≤ maxLen) (m2 : n2 ≤ maxLen) (m3 : n3 ≤ maxLen) (m4 : n4 ≤ maxLen) (hno : ¬ InBounds n0 n1 n2 n3 n4) :
    Calls Try.prog 3 #[.slice a0 n0 c0, .slice a1 n1 c1, .slice a2 n2 c2, .slice a3 n3 c3, .slice a4 n4 c4] w fun e w' => e = .returned (.bool true) ∧ Below w.heap.size w w' := by
  have C5 := hide (zz5_any a0 a1 a2 a3 a4 n0 n1 n2 n3 n4 c0 c1 c2 c3 c4 w)
  have HNO := hide hno
  clear hno
  unfold maxLen at m0 m1 m2 m3 m4
  go_enter Try.func3, Try.ntmps3
  go_wp2_with fail
  refine C5.out.mono ?_
  rintro e w' ⟨⟨b, rfl⟩, hw⟩
  obtain rfl := hw.symm
  cases b
  · go_wp2
    go_ret
    exact ⟨rfl, Below.refl _ _⟩
  by_cases g0 : 65536 < n0
  · go_wp2
    go_ret
    exact ⟨rfl, Below.refl _ _⟩
  by_cases g1 : 65536 < n1
  · go_wp2
    go_ret
    exact ⟨rfl, Below.refl _ _⟩
  by_cases g2 : 65536 < n2
  · go_wp2
    go_ret
    exact ⟨rfl, Below.refl _ _⟩
  by_cases g3 : 65536 < n3
  · go_wp2
    go_ret
    exact ⟨rfl, Below.refl _ _⟩
  by_cases g4 : 65536 < n4
  · go_wp2
    go_ret
    exact ⟨rfl, Below.refl _ _⟩
  by_cases g5 : 131072 < n0 + n1 + n2 + n3 + n4
  · go_wp2
    go_ret
    exact ⟨rfl, Below.refl _ _⟩
  by_cases g6 : n1 = n2
  rotate_left
  · have g6' : ((n1 : Int) == (n2 : Int)) = false := by simp; omega
    clear g6
    go_wp2
    go_ret
    exact ⟨rfl, Below.refl _ _⟩
  subst g6
  by_cases g7 : n3 = n4
  rotate_left
  · have g7' : ((n3 : Int) == (n4 : Int)) = false := by simp; omega
    clear g7
    go_wp2
    go_ret
    exact ⟨rfl, Below.refl _ _⟩
  exact absurd ⟨by omega, by omega, by omega, by omega, by omega, by omega, rfl, g7⟩ HNO.out
end Go.Proofs.Qxb6625802a
