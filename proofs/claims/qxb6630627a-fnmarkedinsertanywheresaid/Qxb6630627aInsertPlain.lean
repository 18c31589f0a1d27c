/-
  THE PLAIN LAW of 'FnMarkedInsertAnywhere': lists alone.
-/
import Derived.Test.Qxb6630627aEq
namespace Go.Proofs.Qxb6630627a

/-- The plan with x put in at place k. -/
def insAt (L : List (ByteArray × Int)) (k : Nat) (x : ByteArray × Int) : List (ByteArray × Int) := L.take k ++ x :: L.drop k

theorem insAt_length (L : List (ByteArray × Int)) (k : Nat) (x : ByteArray × Int) (hk : k ≤ L.length) : (insAt L k x).length = L.length + 1 := by
  simp [insAt]; omega
theorem at_of {A : List (ByteArray × Int)} {j : Nat} {x : ByteArray × Int} (h : j < A.length) (e : A[j]? = some x) : A[j] = x := by
  rw [List.getElem?_eq_getElem h] at e
  exact Option.some.inj e
theorem insAt_lo (L : List (ByteArray × Int)) (k : Nat) (x : ByteArray × Int) (hk : k ≤ L.length) (j : Nat) (hj : j < k) (h : j < (insAt L k x).length) : (insAt L k x)[j] = L[j] := by
  apply at_of h
  unfold insAt
  rw [List.getElem?_append_left (by simp; omega), List.getElem?_take_of_lt hj, List.getElem?_eq_getElem]
theorem insAt_mid (L : List (ByteArray × Int)) (k : Nat) (x : ByteArray × Int) (hk : k ≤ L.length) (h : k < (insAt L k x).length) : (insAt L k x)[k] = x := by
  apply at_of h
  unfold insAt
  rw [List.getElem?_append_right (by simp; omega)]
  simp [Nat.min_eq_left hk]
theorem insAt_hi (L : List (ByteArray × Int)) (k : Nat) (x : ByteArray × Int) (hk : k ≤ L.length) (j : Nat) (hj : k ≤ j) (hl : j < L.length) (h : j + 1 < (insAt L k x).length) : (insAt L k x)[j + 1] = L[j] := by
  apply at_of h
  unfold insAt
  rw [List.getElem?_append_right (by simp; omega)]
  rw [List.length_take, Nat.min_eq_left hk, show j + 1 - k = (j - k) + 1 by omega, List.getElem?_cons_succ, List.getElem?_drop, show k + (j - k) = j by omega, List.getElem?_eq_getElem]
theorem cells_take (L : List (ByteArray × Int)) (j : Nat) (h : j < L.length) : cellsOf (L.take (j + 1)) = cellsOf (L.take j) ++ [.string L[j].1, .int .i64 L[j].2] := by
  rw [List.take_succ_eq_append_getElem h, cellsOf_append]
  rfl
theorem flt_insAt (L : List (ByteArray × Int)) (k : Nat) (x : ByteArray × Int) (m : Int) : flt (insAt L k x) m = flt (L.take k) m ++ (if (x.2 == m) = true then [x] else []) ++ flt (L.drop k) m := by
  unfold flt insAt
  rw [List.filter_append, List.filter_cons]
  split <;> simp
theorem flt_cut (L : List (ByteArray × Int)) (k : Nat) (m : Int) : flt L m = flt (L.take k) m ++ flt (L.drop k) m := by
  unfold flt
  rw [← List.filter_append, List.take_append_drop]
theorem stmts_take {w : World} {b o : Nat} {L : List (ByteArray × Int)} (h : Stmts w b o L) (k : Nat) : Stmts w b o (L.take k) := by
  intro i hi
  have hi' : i < L.length := by simp at hi; omega
  have := h i hi'
  simpa using this
theorem stmts_drop {w : World} {b o : Nat} {L : List (ByteArray × Int)} (h : Stmts w b o L) (k : Nat) : Stmts w b (o + k * 2) (L.drop k) := by
  intro i hi
  have hi' : k + i < L.length := by simp at hi; omega
  have := h (k + i) hi'
  rw [List.getElem_drop, show o + k * 2 + i * 2 = o + (k + i) * 2 by omega]
  exact this
end Go.Proofs.Qxb6630627a
