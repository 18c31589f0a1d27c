/-
  'FnUnmarshalTextAcceptsExactlyTheNames': THE TOLD CARD. The law asks of an error only whether it is nil: for every text that fmt may give.
-/
import Derived.Test.Qxb6630581aFmtAccepts
import Derived.Laws.BytesArg
import Derived.ProofKit
import Derived.ChangeSlices
import Derived.Carry
import Derived.WalkSpells
import Derived.Stop.JoinedTold
import Derived.SevenToldRow
namespace Go.Proofs.Qxb6630581aFmt
open Go.ChangeShapes Go.WideShapes Go.ChangeAt Go.RowKit
open Go.Extern.Stop Go.Stop Go.Extern

theorem own2 : ownKnob Tryf.prog.godebug = none := by kernel_rfl
theorem laidOut2 : laidOutB Tryf.pinned.checked.prog = true := by kernel_rfl
theorem stops2 : Tryf.pinned.checked.prog.stops = ["fmt.Sprintf", "fmt.errorf"] := by kernel_rfl
theorem stopKnobs2 : Tryf.pinned.checked.prog.stopKnobs = [] := by kernel_rfl
theorem quiet2 (os : Os) : Stop.quiet Tryf.pinned.checked.prog os := by
  intro k hk
  rw [stopKnobs2] at hk
  cases hk
theorem cells5 : Tryf.prog.cellsOf 5 = 1 := by kernel_rfl

theorem conv_arg (w : World) (a : Addr) (cap : Nat) (xs : List Int) (hc : ∀ j v, (xs.map (Value.int .u8))[j]? = some v → w.cell? (a.add j) = some v) :
    (convert 27 9 (.slice (some a) xs.length cap)).run Tryf.prog w = .ok (.string (xs.foldl (fun r n => r.push (UInt8.ofNat n.toNat)) ByteArray.empty)) w := by
  have hl := run_loadCells_list (P := Tryf.prog) w a (xs.map (Value.int .u8)) hc
  rw [List.length_map] at hl
  rw [run_convert_bytes_string w 27 9 5 _ xs.length cap Tryf.underlying27 Tryf.underlying5 Tryf.underlying9, run_bytesToString w _ xs.length cap xs hl]

set_option maxRecDepth 100000 in
theorem accepts_lifted (os : Os) (started : os.Started) (H : Type) (enc : TypeId × Value → H) :
    ReturnsInTold none {} Tryf.checked os 4 .any Input.okWide ((OpenSpec.ofChange Rows.fnUnmarshalTextAcceptsExactlyTheNamesSpec).preRow enc Tryf.prog Tryf.f4 [] false [])
      (fun F => ((OpenSpec.ofChange Rows.fnUnmarshalTextAcceptsExactlyTheNamesSpec).at F).post enc Tryf.prog Tryf.f4 false true false false) (aloneAtReturn Tryf.prog) nothingAlways := by
  refine returnsInTold_of_row (C := Tryf.checked) (s := OpenSpec.ofChange Rows.fnUnmarshalTextAcceptsExactlyTheNamesSpec) (by kernel_rfl) own2 started (by kernel_rfl) Tryf.func4
    (OpenSpec.witness_stopped (enc := enc) (C := Tryf.checked) false ⟨#[], #[.int .i64 0, .slice none 0 0], []⟩ 8 (by kernel_rfl) (by kernel_rfl) (by kernel_rfl) (by kernel_rfl)) ?_
  intro F W base args ds gs before _ hF hval0 hW _ _ _ _ _
  have hval : ∀ (j : Nat) t v, Tryf.f4.params[j]? = some t → args[j]? = some v → Value.okWide Tryf.prog W .any base t v := hval0
  have hW' := hW
  obtain ⟨p, q, hA0, hV, rfl, _, _⟩ := hW
  have hA : DataW.TrodAll enc Tryf.prog W 0 (fun _ => true) true Tryf.f4.params.toList args.toList ds p := hA0
  rw [Tryf.params4] at hA hval
  obtain ⟨v0, v1, d0, d1, p0, p1, rfl, rfl, rfl, h0, h1⟩ := trodAll_two hA
  obtain ⟨rfl, rfl⟩ := trodVars_none hV
  obtain ⟨r0, rfl, rfl, rfl, wr0⟩ := open_int Tryf.underlying3 (hval 0 3 v0 rfl rfl) h0
  obtain ⟨a0, len, cap, rfl⟩ := okWide_slice Tryf.underlying27 (hval 1 27 v1 rfl rfl)
  have h1k := h1
  obtain ⟨fuel, hf⟩ := h1
  clear hA0 hval0
  simp only [List.append_nil, List.nil_append] at hW'
  have hlt : ∀ x ∈ p1, x.block < W.heap.size := fun x hx => by simpa using hW'.lt x hx
  have hargs : ∀ (W' : World), Below W.heap.size W W' → DataW.Trod enc Tryf.prog W' 0 (fun b => decide (b < W.heap.size)) true 27 (.slice a0 len cap) d1 p1 :=
    fun W' hn => Below.trod laidOut2 (by kernel_rfl) (of_decide_eq_true (by kernel_rfl)) h1k hn hlt
  have fin : ∀ (e : Ending) (W' : World), (e = .returned (.bool true) ∧ Below W.heap.size W W') → ∃ v, e = .returned v ∧ ((OpenSpec.ofChange Rows.fnUnmarshalTextAcceptsExactlyTheNamesSpec).at F.told).post enc Tryf.prog Tryf.f4 false true false false W #[.int .i64 r0, .slice a0 len cap] v W' := by
    rintro e W' ⟨rfl, hb⟩
    refine ⟨_, rfl, _, _, _, [], [] ++ p1, [], hW', ?_, ?_, rfl, hb.frame _, fun h => by cases h⟩
    · exact trodAll_mk1 (shut_bool Tryf.underlying4 _)
    · exact trodAll_mk2 (shut_int Tryf.underlying3 wr0) (hargs _ hb)
  rcases open_ints Tryf.underlying27 Tryf.underlying5 cells5 hf with ⟨hcs, hx⟩ | ⟨a, len', cap', zs, hcs, _, hl, hm, hz, hx, hcell, hwz⟩
  · simp [Value.cells] at hcs
    obtain ⟨rfl, rfl, rfl⟩ := hcs
    exact (acc_any F.told r0 none 0 0 ByteArray.empty W [0] (by simp) hF (fun wx _ => run_convert_bytes_nil wx 27 5 Tryf.underlying27 Tryf.underlying5 0 0 9 Tryf.underlying9) (fun wx _ => opNil_113 _ wx)).mono fin
  · simp [Value.cells] at hcs
    obtain ⟨rfl, rfl, rfl⟩ := hcs
    simp only [if_true] at hz
    have hlen : (zs.take len).length = len := by rw [List.length_take]; omega
    have hc : ∀ j v, ((zs.take len).map (Value.int .u8))[j]? = some v → W.cell? (a.add j) = some v := by
      intro j v hj
      rw [List.getElem?_map] at hj
      obtain ⟨z, hz1, rfl⟩ := Option.map_eq_some_iff.1 hj
      have hjl : j < len := by
        have := (List.getElem?_eq_some_iff.1 hz1).1
        omega
      rw [hcell j (by omega)]
      rw [List.getElem?_take_of_lt hjl] at hz1
      simp [List.getD, hz1]
    have hwalk := acc_any F.told r0 (some a) (zs.take len).length cap _ W _ (by rw [hlen]; omega) hF
      (fun wx hb => conv_arg wx a cap (zs.take len) (fun j v hj => cell_later hb (hc j v hj)))
      (fun wx hb => opBytes_113 "fmt.errorf" a cap (zs.take len) wx (fun j v hj => cell_later hb (hc j v hj)))
    rw [hlen] at hwalk
    exact hwalk.mono fin

theorem accepts_told : Rows.FnUnmarshalTextAcceptsExactlyTheNamesToldSaid :=
  Claim7.holds_of_told_any 4 Tryf.f4 "fmt.Sprintf" ["fmt.errorf"] [] _ _ _ (by kernel_rfl) rfl rfl rfl laidOut2 (by kernel_rfl) rfl ⟨rfl, rfl, rfl, rfl, rfl, rfl, rfl⟩ rfl rfl (by kernel_rfl) (by kernel_rfl) Tryf.func4 (by kernel_rfl)
    (of_decide_eq_true (by kernel_rfl)) (by unfold Func.isWrapper; first | (rw [if_pos (by decide +kernel)]; kernel_rfl) | (rw [if_neg (by decide +kernel)]; exact ⟨rfl, rfl⟩)) stops2.symm rfl stopKnobs2.symm (by kernel_rfl)
    (by kernel_rfl) (by kernel_rfl) (by kernel_rfl) (by kernel_rfl) (by kernel_rfl) (by kernel_rfl) (by kernel_rfl) (by kernel_rfl) (by kernel_rfl) rfl (by kernel_rfl) rfl rfl
    rfl rfl
    rfl (by kernel_rfl) (by kernel_rfl) (by kernel_rfl) (by decide) (by kernel_rfl)
    (OpenClaim.moreEntering_of (by kernel_rfl) (by kernel_rfl) (by kernel_rfl) (by kernel_rfl) (by kernel_rfl) (by kernel_rfl) (by kernel_rfl) (by kernel_rfl) (by kernel_rfl) (by kernel_rfl))
    ⟨_, WideRow.started_initial, quiet2 _⟩
    (fun os started _ H enc _ => accepts_lifted os started H enc)

#print axioms accepts_told
end Go.Proofs.Qxb6630581aFmt
