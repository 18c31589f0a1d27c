/-
  THE WALK OF 'FnInstancesTileTheirParts'.
-/
import Derived.Test.Qxb6625802aNew
import Derived.Test.Qxb6625802aZInst
import Derived.Laws.CopyOwn
import Derived.Deep.DeepCutAuto
namespace Go.Proofs.Qxb6625802a
open Go.RowKit

/-- What the walk is told of a slice of int32 numbers. -/
def Row (w : World) (ao : Option Addr) (n : Nat) (zs : List Int) : Prop := ∃ b o, (0 < n → ao = some ⟨b, o, none⟩) ∧ Ints w b o zs n
theorem Row.later {w w' : World} {ao : Option Addr} {n : Nat} {zs : List Int} (h : Row w ao n zs) (hb : Below w.heap.size w w') : Row w' ao n zs := by
  obtain ⟨b, o, h1, h2⟩ := h
  exact ⟨b, o, h1, h2.later hb⟩
def Wf (zs : List Int) (n : Nat) : Prop := ∀ i, i < n → -2147483648 ≤ zs.getD i 0 ∧ zs.getD i 0 ≤ 2147483647

/-- The numbers as values. -/
def vals (zs : List Int) (n : Nat) : List Value := (List.range n).map fun i => .int .i32 (zs.getD i 0)
theorem vals_length (zs : List Int) (n : Nat) : (vals zs n).length = n := by simp [vals]
theorem vals_at (zs : List Int) (n i : Nat) (h : i < n) : (vals zs n)[i]? = some (.int .i32 (zs.getD i 0)) := by simp [vals, h]
theorem vals_one (zs : List Int) (n : Nat) : ∀ v ∈ vals zs n, v.oneCell' = true := by
  intro v hv
  simp only [vals, List.mem_map] at hv
  obtain ⟨i, _, rfl⟩ := hv
  rfl
theorem made_row {w : World} {B : Nat} {e : TypeId} {g n : Nat} {xs : List Value} (h : w.ownsRow B e 1 (.slice (some ⟨g, 0, none⟩) n n) n xs) : ∃ cur : List Value, cur.length = n ∧ w.heap[g]? = some (.cells cur.toArray e (0, 0)) := by
  rcases h.2 with ⟨h', _⟩ | ⟨g', cap', cur, h', _, hg, _, _, hs, _⟩
  · simp at h'
  · simp only [Value.slice.injEq, Option.some.injEq, Addr.mk.injEq, and_true, true_and] at h'
    obtain ⟨rfl, rfl⟩ := h'
    exact ⟨cur.toList, by simpa using hs, by simpa using hg⟩
theorem copied {w : World} {e : TypeId} {g n : Nat} {zs : List Int} {cur : List Value} (hl : cur.length = n) (h : w.heap[g]? = some (.cells (splice cur 0 (vals zs n)).toArray e (0, 0))) : Ints w g 0 zs n := by
  intro i hi
  have e1 : splice cur 0 (vals zs n) = vals zs n := by
    unfold splice
    rw [List.take_zero, List.nil_append, Nat.zero_add, vals_length, List.drop_of_length_le (by omega), List.append_nil]
  rw [e1] at h
  rw [Nat.zero_add, cell_of_row w g i _ e (0, 0) h, ← vals_at zs n i hi]
  simp
theorem src_of {w w' : World} {ao : Option Addr} {n : Nat} {zs : List Int} (h : Row w ao n zs) (hb : Below w.heap.size w w') (hp : 0 < n) : ∃ ad, ao = some ad ∧ ∀ j v, (vals zs n)[j]? = some v → w'.cell? (ad.add j) = some v := by
  obtain ⟨b, o, h1, h2⟩ := h
  refine ⟨_, h1 hp, fun j v hj => ?_⟩
  have hjn : j < n := by have := (List.getElem?_eq_some_iff.1 hj).1; simpa [vals] using this
  rw [vals_at zs n j hjn] at hj
  cases hj
  rw [Go.WideShapes.add_plain]
  exact cell_later hb (h2 j hjn)

theorem vals_append (zs : List Int) (p l : Nat) : vals zs p ++ vals (zs.drop p) l = vals zs (p + l) := by
  apply List.ext_getElem?
  intro i
  by_cases h : i < p
  · rw [List.getElem?_append_left (by rw [vals_length]; exact h), vals_at zs p i h, vals_at zs (p + l) i (by omega)]
  · rw [List.getElem?_append_right (by rw [vals_length]; omega), vals_length]
    by_cases h' : i < p + l
    · rw [vals_at _ _ _ (by omega), vals_at _ _ _ h', getD_drop, show p + (i - p) = i by omega]
    · rw [List.getElem?_eq_none (by rw [vals_length]; omega), List.getElem?_eq_none (by rw [vals_length]; omega)]
theorem ends_at {zs : List Int} {n : Nat} {T : Int} (hM : Mono zs n T) (k P : Nat) (hk : k < n) (hP : prev zs k = (P : Int)) : ∃ l : Nat, zs.getD k 0 = ((P + l : Nat) : Int) ∧ ((P + l : Nat) : Int) ≤ T ∧ prev zs (k + 1) = ((P + l : Nat) : Int) := by
  obtain ⟨h1, h2, h3⟩ := hM k hk
  have hle : (P : Int) ≤ zs.getD k 0 := by
    rw [← hP]
    unfold prev
    split
    · exact h1
    · exact h3 (by omega)
  refine ⟨(zs.getD k 0 - P).toNat, by omega, by omega, ?_⟩
  simp only [prev, Nat.add_sub_cancel]
  rw [if_neg (by omega)]
  omega
theorem vals_cells {w : World} {g n : Nat} {zs : List Int} (h : Ints w g 0 zs n) : ∀ j u, (vals zs n)[j]? = some u → w.cell? ((⟨g, 0, none⟩ : Addr).add j) = some u := by
  intro j u hj
  have hjn : j < n := by have := (List.getElem?_eq_some_iff.1 hj).1; simpa [vals] using this
  rw [vals_at zs n j hjn] at hj
  cases hj
  rw [Go.WideShapes.add_plain]
  exact h j hjn
theorem Ints.grownBy {w w' : World} {g k n : Nat} {zs : List Int} (h : Ints w g 0 zs n) (hg : w.grownBy w' (some k)) (hne : g ≠ k) : Ints w' g 0 zs n := fun i hi => hg.cell (h i hi) (by simpa using hne)
theorem owns_kept {w w' : World} {B g k n cap : Nat} {xs : List Value} (h : w.ownsRow B 21 1 (.slice (some ⟨g, 0, none⟩) n cap) n xs) (hg : w.grownBy w' (some k)) (hne : g ≠ k) : w'.ownsRow B 21 1 (.slice (some ⟨g, 0, none⟩) n cap) n xs :=
  h.kept hg (.inr (by simpa [Value.ownBlock] using hne))
theorem owns_later {w w' : World} {B g n cap : Nat} {xs : List Value} (h : w.ownsRow B 21 1 (.slice (some ⟨g, 0, none⟩) n cap) n xs) (hb : Below w.heap.size w w') : w'.ownsRow B 21 1 (.slice (some ⟨g, 0, none⟩) n cap) n xs :=
  h.kept (grown_of_below hb) (.inr (by simp [Value.ownBlock]))
theorem owns_ints {w : World} {B g n cap : Nat} {zs : List Int} (h : w.ownsRow B 21 1 (.slice (some ⟨g, 0, none⟩) n cap) n (vals zs n)) : Ints w g 0 zs n := by
  intro i hi
  rw [Nat.zero_add, h.cellAt i (by omega), vals_at zs n i hi]

set_option maxRecDepth 100000 in
set_option maxHeartbeats 4000000 in
theorem tile_main (a0 a1 a2 a3 a4 : Option Addr) (n0 n1 n3 c0 c1 c2 c3 c4 : Nat) (z0 z1 z2 z3 z4 : List Int) (w : World) (g0 : n0 ≤ 65536) (g1 : n1 ≤ 65536) (g3 : n3 ≤ 65536) (g5 : n0 + n1 + n1 + n3 + n3 ≤ 131072)
    (h0 : Row w a0 n0 z0) (h1 : Row w a1 n1 z1) (h2 : Row w a2 n1 z2) (h3 : Row w a3 n3 z3) (h4 : Row w a4 n3 z4) (f3 : Wf z3 n3) (f4 : Wf z4 n3) :
    Calls Try.prog 3 #[.slice a0 n0 c0, .slice a1 n1 c1, .slice a2 n1 c2, .slice a3 n3 c3, .slice a4 n3 c4] w fun e w' => e = .returned (.bool true) ∧ Below w.heap.size w w' := by
  have C5 := hide (zz5_any a0 a1 a2 a3 a4 n0 n1 n1 n3 n3 c0 c1 c2 c3 c4 w)
  have H0 := hide h0
  have H1 := hide h1
  have H2 := hide h2
  have H3 := hide h3
  have H4 := hide h4
  have F3 := hide f3
  have F4 := hide f4
  obtain ⟨b3, o3, k3, i3⟩ := h3
  obtain ⟨b4, o4, k4, i4⟩ := h4
  have M3 := hide (mono_any a3 n3 c3 b3 o3 z3 (n0 : Int) w g3 k3 i3 f3)
  have M4 := hide (mono_any a4 n3 c4 b4 o4 z4 (n1 : Int) w g3 k4 i4 f4)
  clear h0 h1 h2 f3 f4 k3 i3 k4 i4
  go_enter Try.func3, Try.ntmps3
  go_wp2_with fail
  refine C5.out.mono ?_
  rintro e w' ⟨⟨b, rfl⟩, hw⟩
  obtain rfl := hw.symm
  cases b
  · go_wp2
    go_ret
    exact ⟨rfl, Below.refl _ _⟩
  go_wp2_with fail
  refine M3.out.mono ?_
  rintro e w' ⟨⟨b, rfl, hm3⟩, hw⟩
  obtain rfl := hw.symm
  cases b
  · go_wp2
    go_ret
    exact ⟨rfl, Below.refl _ _⟩
  go_wp2_with fail
  refine M4.out.mono ?_
  rintro e w' ⟨⟨b, rfl, hm4⟩, hw⟩
  obtain rfl := hw.symm
  cases b
  · go_wp2
    go_ret
    exact ⟨rfl, Below.refl _ _⟩
  have HM3 := hide (hm3 (by trivial))
  have HM4 := hide (hm4 (by trivial))
  clear hm3 hm4 C5 M3 M4
  have hnil := fun (W : World) (a : Option Addr) (n c : Nat) => run_neq_slice_nil_any (P := Try.prog) W 22 21 a n c 0 0 Try.underlying22
  obtain ⟨i21, p1, p2, p3, p4⟩ := info_parts Try.info21
  go_upto_if 99 with fail
  go_cut [0] from 99 to 106 (fun v wx => ∃ (ao : Option Addr) (cap : Nat), v = .slice ao n0 cap ∧ Row wx ao n0 z0 ∧ Below w.heap.size w wx)
  case first =>
    cases a0 with
    | none =>
      go_wp2
      go_meet
      case rel => exact ⟨none, _, rfl, H0.out, Below.refl _ _⟩
    | some x =>
      go_wp2_with (first | (at_make; refine wpList_make_full _ rfl _ _ 22 rfl w.heap.size 21 i21 _ 1 Try.underlying22 p1 p2 p3 _ _ _ _ n0 rfl rfl rfl rfl (by rw [p4]; omega) (by simp only [maxLen]; omega) (Nat.le_refl _) ?_; intro w2 hown hgrow; obtain ⟨cur, hcl, hch⟩ := made_row hown; have HCL := hide hcl; have HCH := hide hch; have HB2 := hide (Below.of_grown hgrow); clear hown hgrow hcl hch) | (show Go.wpList _ _ _ ({ dst := some 105, op := _, type := _, pos := _, after := _, guard := _ } :: _) _ _; refine wpList_copy_splice rfl (.tmp 103) (.tmp 104) 22 22 rfl 21 Try.underlying22 (by kernel_rfl) _ _ _ _ _ _ rfl rfl w.heap.size 0 cur 21 HCH.out (vals z0 n0) (by rw [vals_length]; simp) (fun hp => ⟨rfl, src_of H0.out HB2.out (by rw [vals_length] at hp; exact hp)⟩) (by rw [vals_length, HCL.out]; omega) (vals_one _ _) w.heap.size w HB2.out (Nat.le_refl _) ?_; intro w3 HG3 hB3; have HB3 := hide hB3; clear hB3))
      go_meet
      case rel => exact ⟨_, _, rfl, ⟨_, 0, fun _ => rfl, copied HCL.out HG3.out⟩, HB3.out⟩
  case rest =>
    obtain ⟨W1, eW⟩ : ∃ x, x = wc := ⟨_, rfl⟩
    subst eW
    obtain ⟨d0, k0, rfl, hR, hB⟩ := hcut
    have R0_1 := hide hR
    have H1 := hide (H1.out.later hB)
    have H2 := hide (H2.out.later hB)
    have H3 := hide (H3.out.later hB)
    have H4 := hide (H4.out.later hB)
    have HBw1 := hide hB
    clear hR hB
    go_upto_if 108 with fail
    go_cut [1] from 108 to 115 (fun v wx => ∃ (ao : Option Addr) (cap : Nat), v = .slice ao n1 cap ∧ Row wx ao n1 z1 ∧ Below W1.heap.size W1 wx)
    case first =>
      cases a1 with
      | none =>
        go_wp2
        go_meet
        case rel => exact ⟨none, _, rfl, H1.out, Below.refl _ _⟩
      | some x =>
        go_wp2_with (first | (at_make; refine wpList_make_full _ rfl _ _ 22 rfl W1.heap.size 21 i21 _ 1 Try.underlying22 p1 p2 p3 _ _ _ _ n1 rfl rfl rfl rfl (by rw [p4]; omega) (by simp only [maxLen]; omega) (Nat.le_refl _) ?_; intro w2 hown hgrow; obtain ⟨cur, hcl, hch⟩ := made_row hown; have HCL := hide hcl; have HCH := hide hch; have HB2 := hide (Below.of_grown hgrow); clear hown hgrow hcl hch) | (show Go.wpList _ _ _ ({ dst := some 114, op := _, type := _, pos := _, after := _, guard := _ } :: _) _ _; refine wpList_copy_splice rfl (.tmp 112) (.tmp 113) 22 22 rfl 21 Try.underlying22 (by kernel_rfl) _ _ _ _ _ _ rfl rfl W1.heap.size 0 cur 21 HCH.out (vals z1 n1) (by rw [vals_length]; simp) (fun hp => ⟨rfl, src_of H1.out HB2.out (by rw [vals_length] at hp; exact hp)⟩) (by rw [vals_length, HCL.out]; omega) (vals_one _ _) W1.heap.size W1 HB2.out (Nat.le_refl _) ?_; intro w3 HG3 hB3; have HB3 := hide hB3; clear hB3))
        go_meet
        case rel => exact ⟨_, _, rfl, ⟨_, 0, fun _ => rfl, copied HCL.out HG3.out⟩, HB3.out⟩
    case rest =>
      obtain ⟨W2, eW⟩ : ∃ x, x = wc := ⟨_, rfl⟩
      subst eW
      obtain ⟨d1, k1, rfl, hR, hB⟩ := hcut
      have R1_2 := hide hR
      have R0_2 := hide (R0_1.out.later hB)
      have H2 := hide (H2.out.later hB)
      have H3 := hide (H3.out.later hB)
      have H4 := hide (H4.out.later hB)
      have HBw2 := hide (HBw1.out.trans (hB.mono HBw1.out.size))
      clear hR hB R0_1 HBw1
      go_upto_if 117 with fail
      go_cut [2] from 117 to 124 (fun v wx => ∃ (ao : Option Addr) (cap : Nat), v = .slice ao n1 cap ∧ Row wx ao n1 z2 ∧ Below W2.heap.size W2 wx)
      case first =>
        cases a2 with
        | none =>
          go_wp2
          go_meet
          case rel => exact ⟨none, _, rfl, H2.out, Below.refl _ _⟩
        | some x =>
          go_wp2_with (first | (at_make; refine wpList_make_full _ rfl _ _ 22 rfl W2.heap.size 21 i21 _ 1 Try.underlying22 p1 p2 p3 _ _ _ _ n1 rfl rfl rfl rfl (by rw [p4]; omega) (by simp only [maxLen]; omega) (Nat.le_refl _) ?_; intro w2 hown hgrow; obtain ⟨cur, hcl, hch⟩ := made_row hown; have HCL := hide hcl; have HCH := hide hch; have HB2 := hide (Below.of_grown hgrow); clear hown hgrow hcl hch) | (show Go.wpList _ _ _ ({ dst := some 123, op := _, type := _, pos := _, after := _, guard := _ } :: _) _ _; refine wpList_copy_splice rfl (.tmp 121) (.tmp 122) 22 22 rfl 21 Try.underlying22 (by kernel_rfl) _ _ _ _ _ _ rfl rfl W2.heap.size 0 cur 21 HCH.out (vals z2 n1) (by rw [vals_length]; simp) (fun hp => ⟨rfl, src_of H2.out HB2.out (by rw [vals_length] at hp; exact hp)⟩) (by rw [vals_length, HCL.out]; omega) (vals_one _ _) W2.heap.size W2 HB2.out (Nat.le_refl _) ?_; intro w3 HG3 hB3; have HB3 := hide hB3; clear hB3))
          go_meet
          case rel => exact ⟨_, _, rfl, ⟨_, 0, fun _ => rfl, copied HCL.out HG3.out⟩, HB3.out⟩
      case rest =>
        obtain ⟨W3, eW⟩ : ∃ x, x = wc := ⟨_, rfl⟩
        subst eW
        obtain ⟨d2, k2, rfl, hR, hB⟩ := hcut
        have R2_3 := hide hR
        have R0_3 := hide (R0_2.out.later hB)
        have R1_3 := hide (R1_2.out.later hB)
        have H3 := hide (H3.out.later hB)
        have H4 := hide (H4.out.later hB)
        have HBw3 := hide (HBw2.out.trans (hB.mono HBw2.out.size))
        clear hR hB R0_2 R1_2 HBw2
        go_upto_if 126 with fail
        go_cut [3] from 126 to 133 (fun v wx => ∃ (ao : Option Addr) (cap : Nat), v = .slice ao n3 cap ∧ Row wx ao n3 z3 ∧ Below W3.heap.size W3 wx)
        case first =>
          cases a3 with
          | none =>
            go_wp2
            go_meet
            case rel => exact ⟨none, _, rfl, H3.out, Below.refl _ _⟩
          | some x =>
            go_wp2_with (first | (at_make; refine wpList_make_full _ rfl _ _ 22 rfl W3.heap.size 21 i21 _ 1 Try.underlying22 p1 p2 p3 _ _ _ _ n3 rfl rfl rfl rfl (by rw [p4]; omega) (by simp only [maxLen]; omega) (Nat.le_refl _) ?_; intro w2 hown hgrow; obtain ⟨cur, hcl, hch⟩ := made_row hown; have HCL := hide hcl; have HCH := hide hch; have HB2 := hide (Below.of_grown hgrow); clear hown hgrow hcl hch) | (show Go.wpList _ _ _ ({ dst := some 132, op := _, type := _, pos := _, after := _, guard := _ } :: _) _ _; refine wpList_copy_splice rfl (.tmp 130) (.tmp 131) 22 22 rfl 21 Try.underlying22 (by kernel_rfl) _ _ _ _ _ _ rfl rfl W3.heap.size 0 cur 21 HCH.out (vals z3 n3) (by rw [vals_length]; simp) (fun hp => ⟨rfl, src_of H3.out HB2.out (by rw [vals_length] at hp; exact hp)⟩) (by rw [vals_length, HCL.out]; omega) (vals_one _ _) W3.heap.size W3 HB2.out (Nat.le_refl _) ?_; intro w3 HG3 hB3; have HB3 := hide hB3; clear hB3))
            go_meet
            case rel => exact ⟨_, _, rfl, ⟨_, 0, fun _ => rfl, copied HCL.out HG3.out⟩, HB3.out⟩
        case rest =>
          obtain ⟨W4, eW⟩ : ∃ x, x = wc := ⟨_, rfl⟩
          subst eW
          obtain ⟨d3, k3, rfl, hR, hB⟩ := hcut
          have R3_4 := hide hR
          have R0_4 := hide (R0_3.out.later hB)
          have R1_4 := hide (R1_3.out.later hB)
          have R2_4 := hide (R2_3.out.later hB)
          have H4 := hide (H4.out.later hB)
          have HBw4 := hide (HBw3.out.trans (hB.mono HBw3.out.size))
          clear hR hB R0_3 R1_3 R2_3 HBw3
          go_upto_if 135 with fail
          go_cut [4] from 135 to 142 (fun v wx => ∃ (ao : Option Addr) (cap : Nat), v = .slice ao n3 cap ∧ Row wx ao n3 z4 ∧ Below W4.heap.size W4 wx)
          case first =>
            cases a4 with
            | none =>
              go_wp2
              go_meet
              case rel => exact ⟨none, _, rfl, H4.out, Below.refl _ _⟩
            | some x =>
              go_wp2_with (first | (at_make; refine wpList_make_full _ rfl _ _ 22 rfl W4.heap.size 21 i21 _ 1 Try.underlying22 p1 p2 p3 _ _ _ _ n3 rfl rfl rfl rfl (by rw [p4]; omega) (by simp only [maxLen]; omega) (Nat.le_refl _) ?_; intro w2 hown hgrow; obtain ⟨cur, hcl, hch⟩ := made_row hown; have HCL := hide hcl; have HCH := hide hch; have HB2 := hide (Below.of_grown hgrow); clear hown hgrow hcl hch) | (show Go.wpList _ _ _ ({ dst := some 141, op := _, type := _, pos := _, after := _, guard := _ } :: _) _ _; refine wpList_copy_splice rfl (.tmp 139) (.tmp 140) 22 22 rfl 21 Try.underlying22 (by kernel_rfl) _ _ _ _ _ _ rfl rfl W4.heap.size 0 cur 21 HCH.out (vals z4 n3) (by rw [vals_length]; simp) (fun hp => ⟨rfl, src_of H4.out HB2.out (by rw [vals_length] at hp; exact hp)⟩) (by rw [vals_length, HCL.out]; omega) (vals_one _ _) W4.heap.size W4 HB2.out (Nat.le_refl _) ?_; intro w3 HG3 hB3; have HB3 := hide hB3; clear hB3))
              go_meet
              case rel => exact ⟨_, _, rfl, ⟨_, 0, fun _ => rfl, copied HCL.out HG3.out⟩, HB3.out⟩
          case rest =>
            obtain ⟨W5, eW⟩ : ∃ x, x = wc := ⟨_, rfl⟩
            subst eW
            obtain ⟨d4, k4, rfl, hR, hB⟩ := hcut
            have R4_5 := hide hR
            have R0_5 := hide (R0_4.out.later hB)
            have R1_5 := hide (R1_4.out.later hB)
            have R2_5 := hide (R2_4.out.later hB)
            have R3_5 := hide (R3_4.out.later hB)
            have HBw5 := hide (HBw4.out.trans (hB.mono HBw4.out.size))
            clear hR hB R0_4 R1_4 R2_4 R3_4 HBw4
            obtain ⟨b0, o0, ha0, hi0⟩ := R0_5.out
            obtain ⟨b1, o1, ha1, hi1⟩ := R1_5.out
            obtain ⟨b2, o2, ha2, hi2⟩ := R2_5.out
            obtain ⟨b3', o3', ha3, hi3⟩ := R3_5.out
            obtain ⟨b4', o4', ha4, hi4⟩ := R4_5.out
            have C7 := hide (new_any d0 d1 d2 d3 d4 n0 n1 n3 k0 k1 k2 k3 k4 b0 o0 b1 o1 b2 o2 b3' o3' b4' o4' z0 z1 z2 z3 z4 W5 g0 g1 g3 ha0 ha1 ha2 ha3 ha4 hi0 hi1 hi2 hi3 hi4)
            have HA := hide (And.intro ha0 (And.intro ha1 (And.intro ha2 (And.intro ha3 ha4))))
            have HI := hide (And.intro hi0 (And.intro hi1 (And.intro hi2 (And.intro hi3 hi4))))
            clear ha0 ha1 ha2 ha3 ha4 hi0 hi1 hi2 hi3 hi4 R0_5 R1_5 R2_5 R3_5 R4_5
            go_wp2_with fail
            refine C7.out.mono ?_
            rintro e W6 ⟨xb, pb, cb, eb, rfl, hX, hP, hC, hE, hB⟩
            have HI6 := hide (And.intro (HI.out.1.later hB) (And.intro (HI.out.2.1.later hB) (And.intro (HI.out.2.2.1.later hB) (And.intro (HI.out.2.2.2.1.later hB) (HI.out.2.2.2.2.later hB)))))
            have HX6 := hide hX
            have HP6 := hide hP
            have HC6 := hide hC
            have HE6 := hide hE
            have HB6 := hide (HBw5.out.trans (hB.mono HBw5.out.size))
            clear hX hP hC hE hB HI HBw5 C7
            go_wp2_with (first | (at_make; refine wpList_make_own _ rfl _ (.tmp 150) 22 rfl W6.heap.size 21 i21 _ 1 Try.underlying22 p1 p2 p3 _ _ _ n0 rfl rfl rfl (by rw [p4]; omega) (by simp only [maxLen]; omega) (Nat.le_refl _) ?_; intro w7 hown7 hgrow7) | (at_make; refine wpList_make_own _ rfl _ (.tmp 153) 22 rfl W6.heap.size 21 i21 _ 1 Try.underlying22 p1 p2 p3 _ _ _ n1 rfl rfl rfl (by rw [p4]; omega) (by simp only [maxLen]; omega) hgrow7.size ?_; intro w8 hown8 hgrow8) | (at_make; refine wpList_make_own _ rfl _ (.tmp 156) 22 rfl W6.heap.size 21 i21 _ 1 Try.underlying22 p1 p2 p3 _ _ _ n1 rfl rfl rfl (by rw [p4]; omega) (by simp only [maxLen]; omega) (Nat.le_trans hgrow7.size hgrow8.size) ?_; intro w9 hown9 hgrow9))
            have hgpn : W6.heap.size < w7.heap.size := (hown7.lt _ rfl).2
            have hgnm : w7.heap.size < w8.heap.size := (hown8.lt _ rfl).2
            have hgm9 : w8.heap.size < w9.heap.size := (hown9.lt _ rfl).2
            have HOP := hide ((hown7.kept hgrow8 (.inr (by simp [Value.ownBlock]))).kept hgrow9 (.inr (by simp [Value.ownBlock])))
            have HON := hide (hown8.kept hgrow9 (.inr (by simp [Value.ownBlock])))
            have HOM := hide hown9
            have HB9 := hide ((Below.of_grown hgrow7).trans (((Below.of_grown hgrow8).trans ((Below.of_grown hgrow9).mono hgrow8.size)).mono hgrow7.size))
            clear hown7 hown8 hown9 hgrow7 hgrow8 hgrow9
            generalize hgn : w7.heap.size = gn at *
            generalize hgm : w8.heap.size = gm at *
            clear hgn hgm
            go_loopw [17, 18, 19, 20] (fun v u x i wr => ∃ k P Q : Nat, k ≤ n3 ∧ i = .int .i64 k ∧ prev z3 k = (P : Int) ∧ prev z4 k = (Q : Int) ∧ v = .slice (some ⟨W6.heap.size, 0, none⟩) P n0 ∧ u = .slice (some ⟨gn, 0, none⟩) Q n1 ∧ x = .slice (some ⟨gm, 0, none⟩) Q n1 ∧
                wr.ownsRow W6.heap.size 21 1 (.slice (some ⟨W6.heap.size, 0, none⟩) P n0) P (vals z0 P) ∧ wr.ownsRow W6.heap.size 21 1 (.slice (some ⟨gn, 0, none⟩) Q n1) Q (vals z1 Q) ∧ wr.ownsRow W6.heap.size 21 1 (.slice (some ⟨gm, 0, none⟩) Q n1) Q (vals z2 Q) ∧ Below W6.heap.size W6 wr) (fun _ _ _ i _ => n3 - (intOf i).toNat)
            case atStart => exact ⟨0, 0, 0, Nat.zero_le _, rfl, rfl, rfl, rfl, rfl, rfl, HOP.out, HON.out, HOM.out, HB9.out⟩
            case round =>
              obtain ⟨k, P, Q, hk, rfl, hP, hQ, rfl, rfl, rfl, hOP, hON, hOM, hB⟩ := hrel
              clear HOP HON HOM HB9
              by_cases hlt : k < n3
              · obtain ⟨l, he, hle, hp1⟩ := ends_at HM3.out k P hlt hP
                obtain ⟨r, hf, hrf, hq1⟩ := ends_at HM4.out k Q hlt hQ
                have hle' : P + l ≤ n0 := by omega
                have hrf' : Q + r ≤ n1 := by omega
                have C8 := zinst_any xb pb cb eb n0 n1 n3 k P Q (P + l) (Q + r) z0 z1 z2 z3 z4 wr g0 g1 g3 hlt hP hQ he hf (by omega) hle' (by omega) hrf' (HX6.out.later hB) (HE6.out.later hB) (HP6.out.later hB) (HC6.out.later hB)
                rw [Nat.add_sub_cancel_left, Nat.add_sub_cancel_left] at C8
                have HC8 := hide C8
                have hgs : W6.heap.size < wr.heap.size := (hOP.lt _ rfl).2
                have hgs2 : gn < wr.heap.size := (hON.lt _ rfl).2
                have hgs3 : gm < wr.heap.size := (hOM.lt _ rfl).2
                have HOP := hide hOP
                have HON := hide hON
                have HOM := hide hOM
                have HB := hide hB
                have HN := hide (And.intro hp1 hq1)
                have hce := HI6.out.2.2.2.1 k hlt
                have hcf := HI6.out.2.2.2.2 k hlt
                rw [he] at hce
                rw [hf] at hcf
                have HCE := hide (And.intro hce hcf)
                clear C8 hOP hON hOM hB hp1 hq1 hP hQ he hf hle hrf hce hcf
                obtain rfl := HA.out.2.2.2.1 (by omega)
                obtain rfl := HA.out.2.2.2.2 (by omega)
                go_wp2_with fail
                refine HC8.out.mono ?_
                rintro en w10 ⟨t1, t2, t3, rfl, ⟨hb1, hb2, hb3⟩, hI1, hI2, hI3, hB10⟩
                have HI1 := hide hI1
                have HI2 := hide hI2
                have HI3 := hide hI3
                have HOP1 := hide (owns_later HOP.out hB10)
                have HON1 := hide (owns_later HON.out hB10)
                have HOM1 := hide (owns_later HOM.out hB10)
                have HB1 := hide (HB.out.trans (hB10.mono HB.out.size))
                clear hI1 hI2 hI3 hB10 HOP HON HOM HB HC8
                go_wp2_with (first | (at_builtin; refine wpList_append_fits _ rfl (.tmp 201) (.tmp 202) 22 rfl W6.heap.size 21 i21 1 Try.underlying22 p1 p3 W6.heap.size P n0 _ rfl HOP1.out ⟨t1, 0, none⟩ l l (vals (z0.drop P) l) rfl (by rw [vals_length, Nat.mul_one]) (vals_cells HI1.out) (vals_one _ _) hle' ?_; intro w11 hown hgrow; rw [vals_append] at hown; have HOP2 := hide hown; have HON2 := hide (owns_kept HON1.out hgrow (by omega)); have HOM2 := hide (owns_kept HOM1.out hgrow (by omega)); have HI22 := hide (HI2.out.grownBy hgrow (by omega)); have HI32 := hide (HI3.out.grownBy hgrow (by omega)); have HB2 := hide (HB1.out.grown hgrow HB1.out.size (fun k h => by cases h; exact Nat.le_refl _)); clear hown hgrow) | (at_builtin; refine wpList_append_fits _ rfl (.tmp 204) (.tmp 205) 22 rfl W6.heap.size 21 i21 1 Try.underlying22 p1 p3 gn Q n1 _ rfl HON2.out ⟨t2, 0, none⟩ r r (vals (z1.drop Q) r) rfl (by rw [vals_length, Nat.mul_one]) (vals_cells HI22.out) (vals_one _ _) hrf' ?_; intro w12 hown hgrow; rw [vals_append] at hown; have HOP3 := hide (owns_kept HOP2.out hgrow (by omega)); have HON3 := hide hown; have HOM3 := hide (owns_kept HOM2.out hgrow (by omega)); have HI33 := hide (HI32.out.grownBy hgrow (by omega)); have HB3 := hide (HB2.out.grown hgrow HB2.out.size (fun k h => by cases h; omega)); clear hown hgrow) | (at_builtin; refine wpList_append_fits _ rfl (.tmp 207) (.tmp 208) 22 rfl W6.heap.size 21 i21 1 Try.underlying22 p1 p3 gm Q n1 _ rfl HOM3.out ⟨t3, 0, none⟩ r r (vals (z2.drop Q) r) rfl (by rw [vals_length, Nat.mul_one]) (vals_cells HI33.out) (vals_one _ _) hrf' ?_; intro w13 hown hgrow; rw [vals_append] at hown; have HOP4 := hide (owns_kept HOP3.out hgrow (by omega)); have HON4 := hide (owns_kept HON3.out hgrow (by omega)); have HOM4 := hide hown; have HB4 := hide (HB3.out.grown hgrow HB3.out.size (fun k h => by cases h; omega)); have hce := cell_later HB4.out HCE.out.1; have hcf := cell_later HB4.out HCE.out.2; clear hown hgrow))
                have HIP := hide (owns_ints HOP4.out)
                have HIN := hide (owns_ints HON4.out)
                have HIM := hide (owns_ints HOM4.out)
                have HJ0 := hide (HI6.out.1.later HB4.out)
                have HJ1 := hide (HI6.out.2.1.later HB4.out)
                have HJ2 := hide (HI6.out.2.2.1.later HB4.out)
                clear hce hcf HCE
                go_loopw [26] (fun i wx => ∃ j : Nat, P ≤ j ∧ j ≤ P + l ∧ i = .int .i64 j ∧ ∃ q, wx = w13.drewN q) (fun i _ => P + l - (intOf i).toNat)
                case atStart => exact ⟨P, Nat.le_refl _, by omega, rfl, 0, rfl⟩
                case round =>
                  obtain ⟨j, hj1, hj2, rfl, q, rfl⟩ := hrel
                  by_cases hlj : j < P + l
                  · have hx := HIP.out j hlj
                    have hy := HJ0.out j (by omega)
                    obtain rfl := HA.out.1 (by omega)
                    generalize z0.getD j 0 = z at hx hy
                    rw [Nat.zero_add] at hx
                    have hzz : (z == z) = true := by simp
                    go_wp2
                    go_quiet (fail)
                    go_wp2
                    go_roundw
                    case rel => exact ⟨j + 1, by omega, by omega, by go_num, _, rfl⟩
                    case measure => simp [intOf]; omega
                  · go_wp2
                    go_loopw [27] (fun i wx => ∃ j : Nat, Q ≤ j ∧ j ≤ Q + r ∧ i = .int .i64 j ∧ ∃ q, wx = w13.drewN q) (fun i _ => Q + r - (intOf i).toNat)
                    case atStart => exact ⟨Q, Nat.le_refl _, by omega, rfl, q, rfl⟩
                    case round =>
                      obtain ⟨t, ht1, ht2, rfl, q2, rfl⟩ := hrel
                      by_cases hlt2 : t < Q + r
                      · have hx1 := HIN.out t hlt2
                        have hy1 := HJ1.out t (by omega)
                        have hx2 := HIM.out t hlt2
                        have hy2 := HJ2.out t (by omega)
                        obtain rfl := HA.out.2.1 (by omega)
                        obtain rfl := HA.out.2.2.1 (by omega)
                        generalize z1.getD t 0 = z at hx1 hy1
                        generalize z2.getD t 0 = z' at hx2 hy2
                        rw [Nat.zero_add] at hx1 hx2
                        have hzz : (z == z) = true := by simp
                        have hzz' : (z' == z') = true := by simp
                        go_wp2
                        go_quiet (fail)
                        go_wp2
                        go_roundw
                        case rel => exact ⟨t + 1, by omega, by omega, by go_num, _, rfl⟩
                        case measure => simp [intOf]; omega
                      · go_wp2
                        go_roundw
                        case rel => exact ⟨k + 1, P + l, Q + r, by omega, by go_num, HN.out.1, HN.out.2, rfl, rfl, rfl, HOP4.out, HON4.out, HOM4.out, below_drewN HB4.out _⟩
                        case measure => simp [intOf]; omega
              · have HBz := hide (HB6.out.trans (hB.mono HB6.out.size))
                clear hOP hON hOM hB
                go_wp2
                go_ret
                exact ⟨rfl, HBz.out⟩
end Go.Proofs.Qxb6625802a
