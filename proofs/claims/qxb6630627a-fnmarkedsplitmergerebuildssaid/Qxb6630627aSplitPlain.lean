/-
  THE PLAIN LAW of 'FnMarkedSplitMergeRebuilds': lists alone.
-/
import Derived.Test.Qxb6630627aMarked
namespace Go.Proofs.Qxb6630627a

/-- The marks in the order in which each is first met. -/
def ded (xs : List Int) : List Int := xs.foldl (fun acc x => if acc.contains x then acc else acc ++ [x]) []

theorem ded_snoc (xs : List Int) (x : Int) : ded (xs ++ [x]) = if (ded xs).contains x then ded xs else ded xs ++ [x] := by
  unfold ded
  rw [List.foldl_append]
  rfl
theorem ded_take (xs : List Int) (i : Nat) (h : i < xs.length) : ded (xs.take (i + 1)) = if (ded (xs.take i)).contains (xs.getD i 0) then ded (xs.take i) else ded (xs.take i) ++ [xs.getD i 0] := by
  rw [List.take_succ_eq_append_getElem h, ded_snoc]
  simp [List.getD, h]

/-- By induction from the right. -/
theorem snoc_ind {p : List Int → Prop} (h0 : p []) (h1 : ∀ xs x, p xs → p (xs ++ [x])) : ∀ xs, p xs := by
  intro xs
  have h : ∀ ys : List Int, p ys.reverse := by
    intro ys
    induction ys with
    | nil => exact h0
    | cons y ys ih => rw [List.reverse_cons]; exact h1 _ _ ih
  have := h xs.reverse
  rwa [List.reverse_reverse] at this

theorem ded_le (xs : List Int) : (ded xs).length ≤ xs.length := by
  refine snoc_ind (p := fun xs => (ded xs).length ≤ xs.length) (by simp [ded]) ?_ xs
  intro xs x ih
  rw [ded_snoc]
  split
  · simp; omega
  · simp; omega

theorem ded_mem (xs : List Int) (y : Int) : y ∈ ded xs ↔ y ∈ xs := by
  refine snoc_ind (p := fun xs => y ∈ ded xs ↔ y ∈ xs) (by simp [ded]) ?_ xs
  intro xs x ih
  rw [ded_snoc]
  split
  · rename_i h
    simp at h
    simp [ih]
    intro e; subst e; exact ih.1 h
  · simp [ih]

theorem ded_nodup (xs : List Int) : (ded xs).Nodup := by
  refine snoc_ind (p := fun xs => (ded xs).Nodup) (by simp [ded]) ?_ xs
  intro xs x ih
  rw [ded_snoc]
  split
  · exact ih
  · rename_i h
    simp at h
    rw [List.nodup_append]
    refine ⟨ih, by simp, ?_⟩
    intro a ha b hb e
    simp at hb
    subst hb; subst e
    exact h ha

/-- The place of y. -/
theorem mem_place (D : List Int) (y : Int) (h : y ∈ D) : ∃ t, t < D.length ∧ D.getD t 0 = y ∧ ∀ s, s < t → (D.getD s 0 == y) = false := by
  induction D with
  | nil => simp at h
  | cons d D ih =>
    by_cases e : d = y
    · exact ⟨0, by simp, by simp [e], fun s hs => by omega⟩
    · have h' : y ∈ D := by simpa [Ne.symm e] using h
      obtain ⟨t, h1, h2, h3⟩ := ih h'
      refine ⟨t + 1, by simp; omega, by simpa using h2, ?_⟩
      intro s hs
      cases s with
      | zero => simp [e]
      | succ s => simpa using h3 s (by omega)

theorem nodup_place (D : List Int) (hD : D.Nodup) (s t : Nat) (hs : s < D.length) (ht : t < D.length) (h : D.getD s 0 = D.getD t 0) : s = t := by
  simp [List.getD, hs, ht] at h
  exact (List.getElem_inj hD).1 h

theorem flt_split (L : List (ByteArray × Int)) (m : Int) (i : Nat) (h : i < L.length) (hm : L[i].2 = m) :
    ∃ h' : (flt (L.take i) m).length < (flt L m).length, (flt L m)[(flt (L.take i) m).length] = L[i] := by
  have e : flt L m = flt (L.take i) m ++ L[i] :: flt (L.drop (i + 1)) m := by
    conv => lhs; rw [← List.take_append_drop i L, List.drop_eq_getElem_cons h]
    unfold flt
    rw [List.filter_append, List.filter_cons, if_pos (by simp [hm])]
  have hlt : (flt (L.take i) m).length < (flt L m).length := by rw [e]; simp
  refine ⟨hlt, ?_⟩
  have : (flt L m)[(flt (L.take i) m).length]? = some L[i] := by rw [e]; simp
  rw [List.getElem?_eq_getElem hlt] at this
  exact Option.some.inj this

theorem flt_none (L : List (ByteArray × Int)) (m : Int) (h : ∀ p ∈ L, p.2 ≠ m) : flt L m = [] := by
  unfold flt
  rw [List.filter_eq_nil_iff]
  intro p hp
  simp [h p hp]

theorem stm_length (ss : List ByteArray) (ms : List Int) (n : Nat) : (stm ss ms n).length = n := by simp [stm]
theorem stm_at (ss : List ByteArray) (ms : List Int) (n i : Nat) (h : i < (stm ss ms n).length) : (stm ss ms n)[i] = (ss.getD i ByteArray.empty, ms.getD i 0) := by simp [stm]
theorem stm_marks (ss : List ByteArray) (ms : List Int) (n : Nat) (hl : n ≤ ms.length) (p : ByteArray × Int) (h : p ∈ stm ss ms n) : p.2 ∈ ms.take n := by
  unfold stm at h
  simp only [List.mem_map, List.mem_range] at h
  obtain ⟨i, hi, rfl⟩ := h
  have h2 : i < ms.length := by omega
  simp only [List.getD, List.getElem?_eq_getElem h2, Option.getD_some]
  rw [List.mem_take_iff_getElem]
  exact ⟨i, by omega, rfl⟩

/-- How many of the first i statements bear the mark at place t. -/
def cnt (L : List (ByteArray × Int)) (D : List Int) (i t : Nat) : Nat := (flt (L.take i) (D.getD t 0)).length

theorem cnt_zero (L : List (ByteArray × Int)) (D : List Int) (t : Nat) : cnt L D 0 t = 0 := by simp [cnt, flt]
theorem cnt_le (L : List (ByteArray × Int)) (D : List Int) (i t : Nat) : cnt L D i t ≤ i := Nat.le_trans (flt_le _ _) (by simp; omega)
theorem cnt_hit (L : List (ByteArray × Int)) (D : List Int) (i t : Nat) (h : i < L.length) (ht : L[i].2 = D.getD t 0) : cnt L D (i + 1) t = cnt L D i t + 1 := by
  unfold cnt
  rw [flt_hit L _ i h (by simp [ht])]
  simp
theorem cnt_miss (L : List (ByteArray × Int)) (D : List Int) (i t : Nat) (h : i < L.length) (ht : L[i].2 ≠ D.getD t 0) : cnt L D (i + 1) t = cnt L D i t := by
  unfold cnt
  rw [flt_miss L _ i h (by simpa using ht)]
theorem cnt_all (L : List (ByteArray × Int)) (D : List Int) (i t : Nat) (h : L.length ≤ i) : cnt L D i t = (flt L (D.getD t 0)).length := by
  unfold cnt
  rw [List.take_of_length_le h]
end Go.Proofs.Qxb6630627a
