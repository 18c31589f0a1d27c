/-
  THE CONTRACTS OF the law's own bound (function 5) and of 'zzMonotoneWithin' (function 6).
-/
import Derived.Test.Qxb6625802aRows
import Derived.WalkKit
import Derived.WalkSpells
import Derived.WalkSmall
import Derived.BigQuiet
namespace Go.Proofs.Qxb6625802a
open Go.RowKit

theorem hide {p : Prop} (h : p) : Hid p := h
/-- A bool came back. -/
def SomeBool (e : Ending) : Prop := ∃ b : Bool, e = .returned (.bool b)

/-- The first n cells of the row at ⟨b, o⟩ hold the numbers zs. -/
def Ints (w : World) (b o : Nat) (zs : List Int) (n : Nat) : Prop := ∀ i, i < n → w.cell? ⟨b, o + i, none⟩ = some (.int .i32 (zs.getD i 0))
theorem Ints.later {w w' : World} {b o n : Nat} {zs : List Int} (h : Ints w b o zs n) (hb : Below w.heap.size w w') : Ints w' b o zs n := fun i hi => cell_later hb (h i hi)

set_option maxHeartbeats 400000 in
theorem zz5_any (a0 a1 a2 a3 a4 : Option Addr) (n0 n1 n2 n3 n4 c0 c1 c2 c3 c4 : Nat) (w : World) :
    Calls Try.prog 5 #[.slice a0 n0 c0, .slice a1 n1 c1, .slice a2 n2 c2, .slice a3 n3 c3, .slice a4 n4 c4] w fun e w' => SomeBool e ∧ w' = w := by
  go_enter Try.func5, Try.ntmps5
  go_wp2
  all_goals
    go_ret
    exact ⟨⟨_, rfl⟩, rfl⟩

/-- Each is at least the one before it (the first at least 0) and at most T. -/
def Mono (zs : List Int) (n : Nat) (T : Int) : Prop := ∀ i, i < n → 0 ≤ zs.getD i 0 ∧ zs.getD i 0 ≤ T ∧ (0 < i → zs.getD (i - 1) 0 ≤ zs.getD i 0)
/-- The one before. -/
def prev (zs : List Int) (i : Nat) : Int := if i = 0 then 0 else zs.getD (i - 1) 0

/-- What 'zzMonotoneWithin' answers. -/
def MonoEnd (zs : List Int) (n : Nat) (T : Int) (e : Ending) : Prop := ∃ b : Bool, e = .returned (.bool b) ∧ (b = true → Mono zs n T)

set_option maxHeartbeats 400000 in
theorem mono_any (ao : Option Addr) (n cap b o : Nat) (zs : List Int) (T : Int) (w : World) (hn : n ≤ 65536) (hao : 0 < n → ao = some ⟨b, o, none⟩) (hc : Ints w b o zs n) (hw : ∀ i, i < n → -2147483648 ≤ zs.getD i 0 ∧ zs.getD i 0 ≤ 2147483647) :
    Calls Try.prog 6 #[.slice ao n cap, .int .i64 T] w fun e w' => MonoEnd zs n T e ∧ w' = w := by
  have HC := hide hc
  have HW := hide hw
  clear hc hw
  go_enter Try.func6, Try.ntmps6
  go_wp2
  go_loop [5, 6] (fun p i => ∃ j : Nat, j ≤ n ∧ i = .int .i64 j ∧ p = .int .i32 (prev zs j) ∧ 0 ≤ prev zs j ∧ Mono zs j T) (fun _ i => n - (intOf i).toNat)
  case atStart => exact ⟨0, Nat.zero_le _, rfl, rfl, by simp [prev], fun i h => by omega⟩
  case round =>
    obtain ⟨j, hj, rfl, rfl, hp0, hM⟩ := hrel
    have HM := hide hM
    clear hM
    by_cases hlt : j < n
    · have hcj := HC.out j hlt
      have hwj := HW.out j hlt
      obtain rfl := hao (by omega)
      generalize hz : zs.getD j 0 = z at hcj hwj
      generalize hp : prev zs j = p at hp0 ⊢
      have HZ := hide hz
      have HP := hide hp
      clear hz hp
      go_wp2
      all_goals first
        | (go_round
           case rel =>
             have h1 : ¬ z < p := by omega
             have h2 : z ≤ T := by omega
             refine ⟨j + 1, by omega, by go_num, ?_, ?_, ?_⟩
             · simp only [prev, Nat.add_sub_cancel]
               rw [if_neg (by omega), HZ.out]
             · simp only [prev, Nat.add_sub_cancel]
               rw [if_neg (by omega), HZ.out]; omega
             · intro i hi
               by_cases e : i = j
               · subst e
                 rw [HZ.out]
                 refine ⟨by omega, h2, fun h0 => ?_⟩
                 have := HP.out
                 simp only [prev] at this
                 rw [if_neg (by omega)] at this
                 omega
               · exact HM.out i (by omega)
           case measure => simp [intOf]; omega)
        | (go_ret
           exact ⟨⟨_, rfl, fun h => by cases h⟩, rfl⟩)
    · have hjn : j = n := by omega
      subst hjn
      go_wp2
      go_ret
      exact ⟨⟨_, rfl, fun _ => HM.out⟩, rfl⟩
end Go.Proofs.Qxb6625802a
