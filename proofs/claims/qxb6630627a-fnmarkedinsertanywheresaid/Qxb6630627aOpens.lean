/-
  WHAT THE WALKS ARE TOLD OF THE TWO SLICES THAT CAME IN, out of their readings.
-/
import Derived.Test.Qxb6630627aSizes
import Derived.ProofKit
import Derived.OpenShut
import Derived.SliceStrings
namespace Go.Proofs.Qxb6630627a
open Go.ChangeShapes Go.WideShapes Go.ChangeAt Go.RowKit

/-- A row of cells at a slice's address: nil, or ⟨b, o⟩ wherever there is an element. -/
theorem addr_form {w : World} {a : Option Addr} {len : Nat} {f : Nat → Value} (h : ∀ x, a = some x → ∀ i, i < len → w.cell? (x.add i) = some (f i)) (h0 : a = none → len = 0) :
    ∃ b o, (0 < len → a = some ⟨b, o, none⟩) ∧ ∀ i, i < len → w.cell? ⟨b, o + i, none⟩ = some (f i) := by
  cases a with
  | none => exact ⟨0, 0, fun hp => by have := h0 rfl; omega, fun i hi => by have := h0 rfl; omega⟩
  | some x =>
    by_cases hp : 0 < len
    · obtain ⟨b, off, spot⟩ := x
      have hspot : spot = none := by simpa [Addr.add] using World.cell?_spot (h _ rfl 0 hp)
      subst hspot
      exact ⟨b, off, fun _ => rfl, fun j hj => by rw [← Go.WideShapes.add_plain]; exact h _ rfl j hj⟩
    · exact ⟨0, 0, fun hp' => absurd hp' hp, fun i hi => by omega⟩

theorem strs_come {H : Type} {enc : TypeId × Value → H} {w : World} {fuel : Nat} {a : Option Addr} {len cap : Nat} {x : DataW H × List MemPlace}
    (h : DataW.trod enc Try.prog w 0 (fun _ => true) true fuel 22 (Value.slice a len cap).cells.toList = some x) :
    ∃ (b o : Nat) (ss : List ByteArray), len ≤ maxLen ∧ (0 < len → a = some ⟨b, o, none⟩) ∧ ∀ i, i < len → w.cell? ⟨b, o + i, none⟩ = some (.string (ss.getD i ByteArray.empty)) := by
  rcases open_strings Try.underlying22 Try.underlying9 (by kernel_rfl) h with ⟨hcs, _⟩ | ⟨y, l, c, ss, hcs, _, hl, hm, hz, _, hcell, _⟩
  · simp [Value.cells] at hcs
    obtain ⟨rfl, rfl, rfl⟩ := hcs
    exact ⟨0, 0, [], by simp, fun h => by omega, fun i hi => by omega⟩
  · simp [Value.cells] at hcs
    obtain ⟨rfl, rfl, rfl⟩ := hcs
    simp only [if_true] at hz
    obtain ⟨b, o, h1, h2⟩ := addr_form (w := w) (a := some y) (len := len) (f := fun i => .string (ss.getD i ByteArray.empty)) (fun x hx i hi => by cases hx; exact hcell i (by omega)) (fun h => by cases h)
    exact ⟨b, o, ss, by omega, h1, h2⟩

theorem ints_come {H : Type} {enc : TypeId × Value → H} {w : World} {fuel : Nat} {a : Option Addr} {len cap : Nat} {x : DataW H × List MemPlace}
    (h : DataW.trod enc Try.prog w 0 (fun _ => true) true fuel 23 (Value.slice a len cap).cells.toList = some x) :
    ∃ (b o : Nat) (ms : List Int), len ≤ maxLen ∧ len ≤ ms.length ∧ (0 < len → a = some ⟨b, o, none⟩) ∧ ∀ i, i < len → w.cell? ⟨b, o + i, none⟩ = some (.int .i64 (ms.getD i 0)) := by
  rcases open_ints Try.underlying23 Try.underlying3 (by kernel_rfl) h with ⟨hcs, _⟩ | ⟨y, l, c, zs, hcs, _, hl, hm, hz, _, hcell, _⟩
  · simp [Value.cells] at hcs
    obtain ⟨rfl, rfl, rfl⟩ := hcs
    exact ⟨0, 0, [], by simp, by simp, fun h => by omega, fun i hi => by omega⟩
  · simp [Value.cells] at hcs
    obtain ⟨rfl, rfl, rfl⟩ := hcs
    simp only [if_true] at hz
    obtain ⟨b, o, h1, h2⟩ := addr_form (w := w) (a := some y) (len := len) (f := fun i => .int .i64 (zs.getD i 0)) (fun x hx i hi => by cases hx; exact hcell i (by omega)) (fun h => by cases h)
    exact ⟨b, o, zs, by omega, by omega, h1, h2⟩
end Go.Proofs.Qxb6630627a
