/-
  THE WALK OF 'FnUnmarshalTextReadsWhatStringWrites'.
-/
import Derived.Test.Qxb6630581aFmtUnm
import Derived.Laws.IdiomStrings
import Derived.WalkSmall
namespace Go.Proofs.Qxb6630581aFmt
open Go.RowKit

theorem bytesRow_at (s : ByteArray) (cap j : Nat) (hj : j < s.data.toList.length) : (bytesRow s cap)[j]? = some (.int .u8 (s.data.toList[j].toNat : Int)) := by
  have hj' : j < s.data.size := by simpa using hj
  unfold bytesRow
  rw [Array.getElem?_append_left (by simpa using hj'), Array.getElem?_map, Array.getElem?_eq_getElem hj']
  rfl

theorem back (w : World) (s : ByteArray) (cap : Nat) (fz : Nat × Nat) (n : Nat) :
    (convert 27 9 (.slice (some ⟨w.heap.size, 0, none⟩) s.size cap)).run Tryf.prog ((w.alloc (.cells (bytesRow s cap) 5 fz)).drewN n) = .ok (.string s) ((w.alloc (.cells (bytesRow s cap) 5 fz)).drewN n) := by
  have h := run_convert_bytes_back (P := Tryf.prog) ((w.alloc (.cells (bytesRow s cap) 5 fz)).drewN n) 27 9 5 ⟨w.heap.size, 0, none⟩ cap s.data.toList Tryf.underlying27 Tryf.underlying5 Tryf.underlying9 (fun j hj => by
    have e : (⟨w.heap.size, 0, none⟩ : Addr).add j = ⟨w.heap.size, j, none⟩ := by unfold Addr.add; split <;> simp_all
    rw [e, World.cell?_drewN, World.cell?_alloc_mark, bytesRow_at s cap j hj])
  simpa using h

set_option maxHeartbeats 400000 in
theorem reads_in (r0 : Int) (k : Nat) (h1 : 1 ≤ k) (h2 : k ≤ 11) (w : World) :
    Calls Tryf.prog 3 #[.int .i64 r0, .int .i64 (k : Int)] w fun e w' => e = .returned (.bool true) ∧ Below w.heap.size w w' := by
  have hb := fun w s => run_bytes_of_string (P := Tryf.prog) w 9 27 5 s Tryf.underlying9 Tryf.underlying27 Tryf.underlying5
  go_enter Tryf.func3, Tryf.ntmps3
  go_wp2_with (go_at_call 5; refine (string_any _ (by omega) (by omega) _).mono ?_; rintro e w' ⟨rfl, rfl⟩)
  generalize grownCap (w'.alloc (Obj.cells #[Value.int IntKind.i64 r0] 22)) (nameOf k).size 0 5 = cap
  generalize (bytesRow (nameOf k) cap).size = z
  refine (unm_hit _ _ _ (nameOf k) _ (.int .i64 r0) _ k h1 h2 rfl ?_ ?_ ?_).mono ?_
  · intro n
    have := back (w'.alloc (Obj.cells #[Value.int IntKind.i64 r0] 22)) (nameOf k) cap (z, z + 1) (1 + n)
    simpa using this
  · simp
  · simp
  · rintro e w2 ⟨rfl, n, rfl⟩
    go_wp2
    go_ret
    exact ⟨rfl, (below_drewN (((Below.refl _ _).alloc (Nat.le_refl _) _).alloc (by simp) _) (1 + n)).setCell (Nat.le_refl _) _⟩

set_option maxHeartbeats 400000 in
theorem reads_out (r0 v : Int) (h : v < 1 ∨ 11 < v) (w : World) :
    Calls Tryf.prog 3 #[.int .i64 r0, .int .i64 v] w fun e w' => e = .returned (.bool true) ∧ Below w.heap.size w w' := by
  rcases h with h | h
  · go_enter Tryf.func3, Tryf.ntmps3
    go_wp2
    go_ret
    exact ⟨rfl, Below.refl _ _⟩
  · have h' : ¬ v < 1 := by omega
    go_enter Tryf.func3, Tryf.ntmps3
    go_wp2
    go_ret
    exact ⟨rfl, Below.refl _ _⟩

theorem reads_any (r0 v : Int) (w : World) :
    Calls Tryf.prog 3 #[.int .i64 r0, .int .i64 v] w fun e w' => e = .returned (.bool true) ∧ Below w.heap.size w w' := by
  by_cases h : v < 1 ∨ 11 < v
  · exact reads_out r0 v h w
  · obtain ⟨k, rfl⟩ := Int.eq_ofNat_of_zero_le (show 0 ≤ v by omega)
    exact reads_in r0 k (by omega) (by omega) w
end Go.Proofs.Qxb6630581aFmt
