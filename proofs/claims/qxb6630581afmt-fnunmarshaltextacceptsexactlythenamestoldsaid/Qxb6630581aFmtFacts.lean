/-
  THE CLOSED FACTS FOR A WALK OVER fmt.errorf, stopped, AT THIS PROGRAM (after TagFmt, TagSlice, CheckFmt): the one format that the road meets, and a slice of bytes as its operand.
-/
import Derived.Test.Qxb6630581aFmtCards
import Derived.Stop.CallBack
import Derived.Stop.IfaceNil
import Derived.Laws.Cells
import Derived.Stop.FmtTextSlices
namespace Go.Proofs.Qxb6630581aFmt
open Go.Extern.Stop Go.Stop Go.Extern

theorem call10 (args : Array Value) (w : World) : (callFunc 10 args).run Tryf.prog w = ((FmtStop.errorf #[9, 33] #[25] args).run Tryf.prog w).andThen fun v w' => .ok (.value v) w' :=
  run_callFunc_extern Tryf.func10 (by kernel_rfl) (by kernel_rfl) (by kernel_rfl) (by kernel_rfl) args w

theorem guard (name : String) (w : World) : (FmtStop.guard name).run Tryf.prog w = .ok () w := by kernel_rfl

theorem fmt0 : FmtStop.printed? ⟨#[37, 113, 32, 110, 97, 109, 101, 115, 32, 110, 111, 32, 114, 101, 97, 115, 111, 110, 32, 116, 111, 32, 115, 101, 116, 32, 97, 32, 108, 105, 110, 101, 32, 97, 115, 105, 100, 101]⟩ 1 = some [(0, 113, false)] := by kernel_rfl
theorem fmt0r (w : World) : (FmtDoors.printed ⟨#[37, 113, 32, 110, 97, 109, 101, 115, 32, 110, 111, 32, 114, 101, 97, 115, 111, 110, 32, 116, 111, 32, 115, 101, 116, 32, 97, 32, 108, 105, 110, 101, 32, 97, 115, 105, 100, 101]⟩ 1).run Tryf.prog w = .ok [(0, 113, false)] w := by kernel_rfl

theorem ptr36 (w : World) : (FmtStop.ptrTo "errors.errorString").run Tryf.prog w = .ok 36 w := by kernel_rfl
theorem elem36 (w : World) : (elemOf 36).run Tryf.prog w = .ok 38 w := by kernel_rfl
theorem isError36 (w : World) : (FmtDoors.textMethod 36 "Error").run Tryf.prog w = .ok true w := by kernel_rfl

/-- The name of the type 27 (a slice of bytes), by its seven bytes. -/
def name27 : String := String.ofList ([91, 93, 117, 105, 110, 116, 56].map Char.ofNat)
/-- The shape of a slice of bytes. -/
def shape27 : List UInt8 := 13 :: (FmtStop.pack name27.toUTF8.data.toList ++ 6 :: FmtStop.pack "uint8".toUTF8.data.toList)

theorem value5 (name : String) (x : Int) (w : World) : (FmtStop.value name FmtStop.depth 5 [.int .u8 x]).run Tryf.prog w = .ok (digits 8 (x % 2 ^ 64).toNat) w := by kernel_rfl

theorem values5 (name : String) (w : World) : ∀ xs : List Int, (List.mapM ((fun c => FmtStop.value name FmtStop.depth 5 [c]) ∘ Value.int IntKind.u8) xs).run Tryf.prog w = .ok (xs.map fun x => digits 8 (x % 18446744073709551616).toNat) w
  | [] => by simp [List.mapM_nil]
  | x :: xs => by
    have ih := values5 name w xs
    have h := value5 name x w
    simp [List.mapM_cons, h, ih, Result.andThen]

theorem opBytes_113 (name : String) (a : Addr) (cap : Nat) (xs : List Int) (w : World) (hc : ∀ j v, (xs.map (Value.int .u8))[j]? = some v → w.cell? (a.add j) = some v) :
    (FmtStop.operand name true 113 false (.iface 27 (.slice (some a) xs.length cap))).run Tryf.prog w = .ok (shape27, 1 :: (digits 8 xs.length ++ FmtText.intValues xs)) w := by
  have h1 : (typeStr 27).run Tryf.prog w = .ok name27 w := by kernel_rfl
  have hb : (FmtStop.bare (FmtStop.asked true 113 false) 27).run Tryf.prog w = .ok true w := by kernel_rfl
  have hs : (FmtStop.scalar 5).run Tryf.prog w = .ok true w := by kernel_rfl
  have hy : (Extern.Stop.isByte 5).run Tryf.prog w = .ok true w := by kernel_rfl
  have hw : Tryf.prog.funcs.any (·.name == FmtStop.writeWord) = true := by kernel_rfl
  have hsh : (FmtStop.shape name (FmtStop.asked true 113 false) FmtStop.depth 5).run Tryf.prog w = .ok (6 :: FmtStop.pack "uint8".toUTF8.data.toList) w := by kernel_rfl
  have hl := run_loadCells_list (P := Tryf.prog) w a (xs.map (Value.int .u8)) hc
  rw [List.length_map] at hl
  simp [FmtStop.operand, h1, hb, hs, hy, hsh, hl, values5, shape27, FmtText.intValues]
  intro hno
  obtain ⟨i, hi, _, _, he⟩ := Array.any_iff_exists.1 hw
  exact absurd (by simpa using he) (hno i hi)

theorem opNil_113 (name : String) (w : World) : (FmtStop.operand name true 113 false (.iface 27 (.slice none 0 0))).run Tryf.prog w = .ok (shape27, [0]) w := by kernel_rfl

end Go.Proofs.Qxb6630581aFmt
