/-
  THE CONTRACT OF function 13: the method of 'extra' that hands out the parts and conds of one number.
-/
import Derived.Test.Qxb6625802aMem
import Derived.Deep.RegionWith
namespace Go.Proofs.Qxb6625802a
open Go.RowKit

theorem slice_mid {t : TypeId} (s : Nat) (hs : ∀ W, (sizeOf (Try.prog.elem t)).run Try.prog W = .ok s W) (hu : Try.prog.underlying t = some (.slice (Try.prog.elem t))) (b n l h : Nat) (hlh : l ≤ h) (hh : h ≤ n) :
    ∃ ao : Option Addr, (∀ W, (Instr.slice t (.slice (some ⟨b, 0, none⟩) n n) (some (.int .i32 (l : Int))) (some (.int .i32 (h : Int))) none).run Try.prog W = .ok (.slice ao (h - l) (n - l)) W) ∧ (0 < h - l → ao = some ⟨b, l * s, none⟩) := by
  by_cases e : n = l
  · refine ⟨some ⟨b, 0, none⟩, fun W => ?_, fun h => by omega⟩
    rw [run_slice_lh W t _ n n hu .i32 .i32 l h (by omega) (by omega) (by omega), hs]
    simp [Result.andThen, sliced, e]
  · refine ⟨some ⟨b, l * s, none⟩, fun W => ?_, fun _ => rfl⟩
    rw [run_slice_lh W t _ n n hu .i32 .i32 l h (by omega) (by omega) (by omega), hs]
    have ha : (⟨b, 0, none⟩ : Addr).add (l * s) = ⟨b, l * s, none⟩ := by
      unfold Addr.add
      split
      · simp_all
      · simp
    simp only [Result.andThen, sliced, Int.toNat_natCast, if_neg e, Option.map_some, ha]

set_option maxRecDepth 100000 in
set_option maxHeartbeats 1000000 in
theorem inst_zero (xb pb cb eb n0 n1 n3 e f : Nat) (w : World) (h3 : 0 < n3) (he : e ≤ n0) (hf : f ≤ n1)
    (hX : XB w xb (.slice (some ⟨pb, 0, none⟩) n0 n0) (.slice (some ⟨eb, 0, none⟩) n3 n3) (.slice (some ⟨cb, 0, none⟩) n1 n1))
    (hE : w.cell? ⟨eb, 0, none⟩ = some (.int .i32 (e : Int))) (hF : w.cell? ⟨eb, 1, none⟩ = some (.int .i32 (f : Int))) :
    Calls Try.prog 13 #[.pointer (some ⟨xb, 0, none⟩), .int .i32 0] w fun en w' => ∃ a1 a2 : Option Addr, en = .returned (.tuple #[.slice a1 e n0, .slice a2 f n1]) ∧ (0 < e → a1 = some ⟨pb, 0, none⟩) ∧ (0 < f → a2 = some ⟨cb, 0, none⟩) ∧ ∃ r, w' = w.drewN r := by
  obtain ⟨x2, x3, x12, _⟩ := hX
  go_enter Try.func13, Try.ntmps13
  go_wp2
  go_quiet (fail)
  go_wp2
  go_ret2
  exact ⟨_, _, rfl, fun _ => rfl, fun _ => rfl, nq, rfl⟩

set_option maxRecDepth 100000 in
set_option maxHeartbeats 1000000 in
theorem inst_succ (xb pb cb eb n0 n1 n3 k p q e f : Nat) (w : World) (hn3 : n3 ≤ 65536) (h3 : k + 1 < n3) (hpe : p ≤ e) (he : e ≤ n0) (hqf : q ≤ f) (hf : f ≤ n1)
    (hX : XB w xb (.slice (some ⟨pb, 0, none⟩) n0 n0) (.slice (some ⟨eb, 0, none⟩) n3 n3) (.slice (some ⟨cb, 0, none⟩) n1 n1))
    (hP : w.cell? ⟨eb, k * 2, none⟩ = some (.int .i32 (p : Int))) (hQ : w.cell? ⟨eb, k * 2 + 1, none⟩ = some (.int .i32 (q : Int)))
    (hE : w.cell? ⟨eb, (k + 1) * 2, none⟩ = some (.int .i32 (e : Int))) (hF : w.cell? ⟨eb, (k + 1) * 2 + 1, none⟩ = some (.int .i32 (f : Int))) :
    Calls Try.prog 13 #[.pointer (some ⟨xb, 0, none⟩), .int .i32 ((k : Int) + 1)] w fun en w' => ∃ a1 a2 : Option Addr, en = .returned (.tuple #[.slice a1 (e - p) (n0 - p), .slice a2 (f - q) (n1 - q)]) ∧ (0 < e - p → a1 = some ⟨pb, p, none⟩) ∧ (0 < f - q → a2 = some ⟨cb, q * 2, none⟩) ∧ ∃ r, w' = w.drewN r := by
  obtain ⟨x2, x3, x12, _⟩ := hX
  obtain ⟨a1, s1, t1⟩ := slice_mid (t := 32) 1 (fun W => by kernel_rfl) (by kernel_rfl) pb n0 p e hpe he
  obtain ⟨a2, s2, t2⟩ := slice_mid (t := 40) 2 (fun W => by kernel_rfl) (by kernel_rfl) cb n1 q f hqf hf
  have HT := hide (And.intro t1 t2)
  clear t1 t2
  simp only [Nat.mul_one] at HT
  go_enter Try.func13, Try.ntmps13
  go_wp2
  go_quiet (fail)
  go_wp2
  go_quiet (fail)
  go_wp2
  go_ret2
  exact ⟨a1, a2, rfl, HT.out.1, HT.out.2, _, World.drewN_drewN ..⟩

theorem inst_any (xb pb cb eb n0 n1 n3 k p q e f : Nat) (z3 z4 : List Int) (w : World) (hn3 : n3 ≤ 65536) (hk : k < n3) (hp : prev z3 k = p) (hq : prev z4 k = q) (he : z3.getD k 0 = e) (hf : z4.getD k 0 = f) (hpe : p ≤ e) (hen : e ≤ n0) (hqf : q ≤ f) (hfn : f ≤ n1)
    (hX : XB w xb (.slice (some ⟨pb, 0, none⟩) n0 n0) (.slice (some ⟨eb, 0, none⟩) n3 n3) (.slice (some ⟨cb, 0, none⟩) n1 n1)) (hE : Pairs w eb 0 z3 z4 n3) :
    Calls Try.prog 13 #[.pointer (some ⟨xb, 0, none⟩), .int .i32 (k : Int)] w fun en w' => ∃ a1 a2 : Option Addr, en = .returned (.tuple #[.slice a1 (e - p) (n0 - p), .slice a2 (f - q) (n1 - q)]) ∧ (0 < e - p → a1 = some ⟨pb, p, none⟩) ∧ (0 < f - q → a2 = some ⟨cb, q * 2, none⟩) ∧ ∃ r, w' = w.drewN r := by
  cases k with
  | zero =>
    have hp0 : p = 0 := by simp only [prev, if_true] at hp; omega
    have hq0 : q = 0 := by simp only [prev, if_true] at hq; omega
    subst hp0 hq0
    obtain ⟨h1, h2⟩ := hE 0 hk
    rw [he] at h1
    rw [hf] at h2
    exact inst_zero xb pb cb eb n0 n1 n3 e f w hk hen hfn hX h1 h2
  | succ k =>
    obtain ⟨h1, h2⟩ := hE k (by omega)
    obtain ⟨h3, h4⟩ := hE (k + 1) hk
    simp only [prev, Nat.add_sub_cancel] at hp hq
    rw [if_neg (by omega)] at hp hq
    rw [hp, Nat.zero_add] at h1
    rw [hq, Nat.zero_add] at h2
    rw [he, Nat.zero_add] at h3
    rw [hf, Nat.zero_add] at h4
    exact inst_succ xb pb cb eb n0 n1 n3 k p q e f w hn3 hk hpe hen hqf hfn hX h1 h2 h3 h4
end Go.Proofs.Qxb6625802a
