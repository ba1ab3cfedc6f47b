import Derived.Test.Qxb6618760aFmtRows
import Derived.Stop.CallBack
import Derived.Stop.IfaceNil
import Derived.Laws.Cells
import Derived.Stop.FmtTextSlices
import GoSem.ClaimData
namespace Go.Proofs
open Go.Extern.Stop Go.Stop Go.Extern

theorem Tryf.call15 (args : Array Value) (w : World) : (callFunc 15 args).run Tryf.prog w = ((FmtStop.errorf #[9, 39] #[26] args).run Tryf.prog w).andThen fun v w' => .ok (.value v) w' :=
  run_callFunc_extern Tryf.func15 (by kernel_rfl) (by kernel_rfl) (by kernel_rfl) (by kernel_rfl) args w

theorem Tryf.guard (name : String) (w : World) : (FmtStop.guard name).run Tryf.prog w = .ok () w := by kernel_rfl

theorem Tryf.fmt0 : FmtStop.printed? ⟨#[117, 110, 107, 110, 111, 119, 110, 32, 107, 101, 121, 32, 37, 113]⟩ 1 = some [(0, 113, false)] := by kernel_rfl
theorem Tryf.fmt0r (w : World) : (FmtDoors.printed ⟨#[117, 110, 107, 110, 111, 119, 110, 32, 107, 101, 121, 32, 37, 113]⟩ 1).run Tryf.prog w = .ok [(0, 113, false)] w := by kernel_rfl

/-- The shape of a slice of bytes, as fmt's stop is asked of it: the type's name and the element's, each behind its length. -/
def Tryf.shape22 : List UInt8 := [13, 7, 0, 0, 0, 0, 0, 0, 0, 91, 93, 117, 105, 110, 116, 56, 6, 5, 0, 0, 0, 0, 0, 0, 0, 117, 105, 110, 116, 56]
theorem Tryf.shape22_eq : 13 :: (FmtStop.pack Tryf.t22.str.toUTF8.data.toList ++ 6 :: FmtStop.pack "uint8".toUTF8.data.toList) = Tryf.shape22 := by kernel_rfl

theorem Tryf.value5 (name : String) (x : Int) (w : World) : (FmtStop.value name FmtStop.depth 5 [.int .u8 x]).run Tryf.prog w = .ok (digits 8 (x % 2 ^ 64).toNat) w := by kernel_rfl

theorem Tryf.values5 (name : String) (w : World) : ∀ xs : List Int, (List.mapM ((fun c => FmtStop.value name FmtStop.depth 5 [c]) ∘ Value.int IntKind.u8) xs).run Tryf.prog w = .ok (xs.map fun x => digits 8 (x % 18446744073709551616).toNat) w
  | [] => by simp [List.mapM_nil]
  | x :: xs => by
    have ih := Tryf.values5 name w xs
    have h := Tryf.value5 name x w
    simp [List.mapM_cons, h, ih, Result.andThen]

theorem Tryf.opBytes (name : String) (a : Addr) (cap : Nat) (xs : List Int) (w : World) (hc : ∀ j v, (xs.map (Value.int .u8))[j]? = some v → w.cell? (a.add j) = some v) :
    (FmtStop.operand name true 113 false (.iface 22 (.slice (some a) xs.length cap))).run Tryf.prog w = .ok (Tryf.shape22, 1 :: (digits 8 xs.length ++ FmtText.intValues xs)) w := by
  have h1 : (typeStr 22).run Tryf.prog w = .ok Tryf.t22.str w := by kernel_rfl
  have hb : (FmtStop.bare (FmtStop.asked true 113 false) 22).run Tryf.prog w = .ok true w := by kernel_rfl
  have hs : (FmtStop.scalar 5).run Tryf.prog w = .ok true w := by kernel_rfl
  have hy : (Extern.Stop.isByte 5).run Tryf.prog w = .ok true w := by kernel_rfl
  have hw : Tryf.prog.funcs.any (·.name == FmtStop.writeWord) = true := by kernel_rfl
  have hsh : (FmtStop.shape name (FmtStop.asked true 113 false) FmtStop.depth 5).run Tryf.prog w = .ok (6 :: FmtStop.pack "uint8".toUTF8.data.toList) w := by kernel_rfl
  have d2 : Tryf.t22.desc = .slice 5 := rfl
  have hl := run_loadCells_list (P := Tryf.prog) w a (xs.map (Value.int .u8)) hc
  rw [List.length_map] at hl
  rw [← Tryf.shape22_eq]
  simp [FmtStop.operand, h1, hb, hs, hy, hsh, hl, Tryf.values5, FmtText.intValues]
  intro hno
  obtain ⟨i, hi, _, _, he⟩ := Array.any_iff_exists.1 hw
  exact absurd (by simpa using he) (hno i hi)

theorem Tryf.opNil (name : String) (w : World) : (FmtStop.operand name true 113 false (.iface 22 (.slice none 0 0))).run Tryf.prog w = .ok (Tryf.shape22, [0]) w := by kernel_rfl

theorem Tryf.ptr42 (w : World) : (FmtStop.ptrTo "errors.errorString").run Tryf.prog w = .ok 42 w := by kernel_rfl
theorem Tryf.elem42 (w : World) : (elemOf 42).run Tryf.prog w = .ok 44 w := by kernel_rfl
theorem Tryf.isError42' (w : World) : (FmtDoors.textMethod 42 "Error").run Tryf.prog w = .ok true w := by kernel_rfl
end Go.Proofs
