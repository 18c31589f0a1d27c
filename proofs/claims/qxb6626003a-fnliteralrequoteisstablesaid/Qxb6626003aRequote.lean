/-
  THE WALK OF 'FnLiteralRequoteIsStable'.
-/
import Derived.Test.Qxb6626003aLit
namespace Go.Proofs.Qxb6626003a
open Go.RowKit

set_option maxRecDepth 100000 in
set_option maxHeartbeats 1000000 in
theorem requote_walk (s : ByteArray) (w : World) (hs : s.size ≤ maxLen) : Calls Try.prog 4 #[.string s] w fun e w' => e = .returned (.bool true) ∧ Below w.heap.size w w' := by
  unfold maxLen at hs
  have C8 := hide (zz8_any s w)
  go_enter Try.func4, Try.ntmps4
  go_wp2_with fail
  refine C8.out.mono ?_
  rintro e w' ⟨⟨b, rfl⟩, hw⟩
  obtain rfl := hw.symm
  cases b
  · go_wp2
    go_ret
    exact ⟨rfl, Below.refl _ _⟩
  by_cases h1 : 1048576 < s.size
  · go_wp2
    go_ret
    exact ⟨rfl, Below.refl _ _⟩
  clear C8 hw
  have hss : (s.toList == s.toList) = true := by simp
  have hnn : ((s.size : Int) == (s.size : Int)) = true := by simp
  go_wp2_with fail
  refine (zlit_any s w (by omega)).mono ?_
  rintro e w1 ⟨g, rfl, hT, hB⟩
  have HT := hide hT
  have HB := hide hB
  clear hT hB
  go_wp2_with fail
  refine (all_true g _ _ w1 (by omega) HT.out).mono ?_
  rintro e w' ⟨rfl, hw⟩
  obtain rfl := hw.symm
  go_wp2_with fail
  refine (zlit_any s w1 (by omega)).mono ?_
  rintro e w2 ⟨g2, rfl, hT2, hB2⟩
  have HT1 := hide (HT.out.later hB2)
  have HT2 := hide hT2
  have HB2 := hide (HB.out.trans (hB2.mono HB.out.size))
  clear hT2 hB2 HT HB
  go_wp2_with fail
  refine (same_true g2 _ _ g _ w2 (by omega) HT2.out HT1.out).mono ?_
  rintro e w3 ⟨rfl, q, hw3⟩
  have HB3 : Hid (Below w.heap.size w w3) := by rw [hw3]; exact below_drewN HB2.out _
  clear hw3
  go_wp2
  go_ret
  exact ⟨rfl, HB3.out⟩
end Go.Proofs.Qxb6626003a
