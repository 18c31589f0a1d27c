/-
  THE WALK OF 'FnLiteralSplitsAtAnyCut'.
-/
import Derived.Test.Qxb6626003aLit
namespace Go.Proofs.Qxb6626003a
open Go.RowKit

set_option maxRecDepth 100000 in
set_option maxHeartbeats 4000000 in
theorem splits_walk (a b : ByteArray) (w : World) (ha : a.size ≤ maxLen) (hb : b.size ≤ maxLen) : Calls Try.prog 3 #[.string a, .string b] w fun e w' => e = .returned (.bool true) ∧ Below w.heap.size w w' := by
  unfold maxLen at ha hb
  have C5 := hide (zz5_any a b w)
  go_enter Try.func3, Try.ntmps3
  go_wp2_with fail
  refine C5.out.mono ?_
  rintro e w' ⟨⟨b', rfl⟩, hw⟩
  obtain rfl := hw.symm
  cases b'
  · go_wp2
    go_ret
    exact ⟨rfl, Below.refl _ _⟩
  by_cases h1 : 1048576 < a.size
  · go_wp2
    go_ret
    exact ⟨rfl, Below.refl _ _⟩
  by_cases h2 : 1048576 < b.size
  · go_wp2
    go_ret
    exact ⟨rfl, Below.refl _ _⟩
  by_cases h3 : 1048576 < a.size + b.size
  · go_wp2
    go_ret
    exact ⟨rfl, Below.refl _ _⟩
  clear C5 hw
  have hsz : (a ++ b).size = a.size + b.size := by simp
  have HSZ := hide hsz
  clear hsz
  have h1' : a.size ≤ 1048576 := by omega
  have h2' : b.size ≤ 1048576 := by omega
  go_wp2_with fail
  refine (zlit_any (a ++ b) w (by rw [HSZ.out]; omega)).mono ?_
  rintro e w1 ⟨g1, rfl, hT1, hB1⟩
  rw [HSZ.out] at hT1
  rw [HSZ.out]
  have HT1 := hide hT1
  have HB1 := hide hB1
  clear hT1 hB1
  go_wp2_with fail
  refine (zlit_any a w1 (by omega)).mono ?_
  rintro e w2 ⟨g2, rfl, hT2, hB2⟩
  have HT2 := hide hT2
  have HT1' := hide (HT1.out.later hB2)
  have HB2 := hide (HB1.out.trans (hB2.mono HB1.out.size))
  clear hT2 hB2 HT1 HB1
  go_wp2_with fail
  refine (zlit_any b w2 (by omega)).mono ?_
  rintro e w3 ⟨g3, rfl, hT3, hB3⟩
  have HTb := hide hT3
  have HTa := hide (HT2.out.later hB3)
  have HTab := hide (HT1'.out.later hB3)
  have HB3 := hide (HB2.out.trans (hB3.mono HB2.out.size))
  clear hT3 hB3 HT2 HT1' HB2
  have haa : (a.toList == a.toList) = true := by simp
  have hbb : (b.toList == b.toList) = true := by simp
  have hab : ((a ++ b).toList == (a ++ b).toList) = true := by simp
  go_wp2
  go_loopw [21] (fun i wx => ∃ j : Nat, j ≤ a.size ∧ i = .int .i64 j ∧ ∃ q, wx = w3.drewN q) (fun i _ => a.size - (intOf i).toNat)
  case atStart => exact ⟨0, Nat.zero_le _, rfl, 0, rfl⟩
  case round =>
    obtain ⟨j, hj, rfl, q, rfl⟩ := hrel
    by_cases hlt : j < a.size
    · have hx := HTab.out j (by omega)
      have hy := HTa.out j hlt
      go_wp2
      go_quiet (fail)
      go_wp2
      go_roundw
      case rel => exact ⟨j + 1, by omega, by go_num, _, rfl⟩
      case measure => simp [intOf]; omega
    · go_wp2
      go_loopw [22] (fun i wx => ∃ t : Nat, t ≤ b.size ∧ i = .int .i64 t ∧ ∃ q, wx = w3.drewN q) (fun i _ => b.size - (intOf i).toNat)
      case atStart => exact ⟨0, Nat.zero_le _, rfl, q, rfl⟩
      case round =>
        obtain ⟨t, ht, rfl, q2, rfl⟩ := hrel
        by_cases hlt2 : t < b.size
        · have hx := HTab.out (a.size + t) (by omega)
          have hy := HTb.out t hlt2
          go_wp2
          go_quiet (fail)
          go_wp2
          go_roundw
          case rel => exact ⟨t + 1, by omega, by go_num, _, rfl⟩
          case measure => simp [intOf]; omega
        · go_wp2_with fail
          refine (all_true g1 _ _ (w3.drewN q2) (by omega) (HTab.out.later (below_drewN (Below.refl _ _) _))).mono ?_
          rintro e w' ⟨rfl, hw⟩
          obtain rfl := hw.symm
          go_wp2
          go_ret
          exact ⟨rfl, below_drewN HB3.out _⟩
end Go.Proofs.Qxb6626003a
