/- Seat b6623336aF: closed facts for the walks over fmt's stopped front, and what a slice of bytes in memory reads as. -/
import Derived.Test.Qxb6623336aFmtRows
import Derived.WalkKit
import Derived.WalkSpells
import Derived.Stop.CallBack
import Derived.Stop.IfaceNil
import Derived.Laws.Cells
import Derived.Laws.BytesArg
import Derived.Stop.FmtTextSlices
import GoSem.ClaimData
namespace Go.Proofs.Qxb6623336aFmt
open Go.RowKit Go.Extern.Stop Go.Stop Go.Extern

/-- The format, as bytes. -/
def fmtBytes : ByteArray := ⟨#[116, 104, 101, 32, 97, 108, 103, 111, 114, 105, 116, 104, 109, 32, 37, 113, 32, 105, 115, 32, 110, 101, 105, 116, 104, 101, 114, 32, 82, 83, 50, 53, 54, 32, 110, 111, 114, 32, 69, 83, 50, 53, 54]⟩

theorem call11 (args : Array Value) (w : World) : (callFunc 11 args).run Tryf.prog w = ((FmtStop.errorf #[9, 34] #[26] args).run Tryf.prog w).andThen fun v w' => .ok (.value v) w' :=
  run_callFunc_extern Tryf.func11 (by kernel_rfl) (by kernel_rfl) (by kernel_rfl) (by kernel_rfl) args w
theorem guard_ok (name : String) (w : World) : (FmtStop.guard name).run Tryf.prog w = .ok () w := by kernel_rfl
theorem fmt_one : FmtStop.printed? ⟨#[116, 104, 101, 32, 97, 108, 103, 111, 114, 105, 116, 104, 109, 32, 37, 113, 32, 105, 115, 32, 110, 101, 105, 116, 104, 101, 114, 32, 82, 83, 50, 53, 54, 32, 110, 111, 114, 32, 69, 83, 50, 53, 54]⟩ 1 = some [(0, 113, false)] := by kernel_rfl
theorem fmt_one_run (w : World) : (FmtDoors.printed ⟨#[116, 104, 101, 32, 97, 108, 103, 111, 114, 105, 116, 104, 109, 32, 37, 113, 32, 105, 115, 32, 110, 101, 105, 116, 104, 101, 114, 32, 82, 83, 50, 53, 54, 32, 110, 111, 114, 32, 69, 83, 50, 53, 54]⟩ 1).run Tryf.prog w = .ok [(0, 113, false)] w := by kernel_rfl
theorem ptr38 (w : World) : (FmtStop.ptrTo "errors.errorString").run Tryf.prog w = .ok 38 w := by kernel_rfl
theorem elem38 (w : World) : (elemOf 38).run Tryf.prog w = .ok 40 w := by kernel_rfl
theorem isError38 (w : World) : (FmtDoors.textMethod 38 "Error").run Tryf.prog w = .ok true w := by kernel_rfl

/-- The name of []uint8, as bytes. -/
def name23 : List UInt8 := [91, 93, 117, 105, 110, 116, 56]
/-- The shape of []uint8. -/
def shape23 : List UInt8 := 13 :: (FmtStop.pack name23 ++ 6 :: FmtStop.pack "uint8".toUTF8.data.toList)

theorem value5 (name : String) (x : Int) (w : World) : (FmtStop.value name FmtStop.depth 5 [.int .u8 x]).run Tryf.prog w = .ok (digits 8 (x % 2 ^ 64).toNat) w := by kernel_rfl

theorem values5 (name : String) (w : World) : ∀ xs : List Int, (List.mapM ((fun c => FmtStop.value name FmtStop.depth 5 [c]) ∘ Value.int IntKind.u8) xs).run Tryf.prog w = .ok (xs.map fun x => digits 8 (x % 18446744073709551616).toNat) w
  | [] => by simp [List.mapM_nil]
  | x :: xs => by
    have ih := values5 name w xs
    have h := value5 name x w
    simp [List.mapM_cons, h, ih, Result.andThen]

theorem opBytes (name : String) (a : Addr) (cap : Nat) (xs : List Int) (w : World) (hc : ∀ j v, (xs.map (Value.int .u8))[j]? = some v → w.cell? (a.add j) = some v) :
    (FmtStop.operand name true 113 false (.iface 23 (.slice (some a) xs.length cap))).run Tryf.prog w = .ok (shape23, 1 :: (digits 8 xs.length ++ FmtText.intValues xs)) w := by
  have h1 : (typeStr 23).run Tryf.prog w = .ok (Tryf.t23.str) w := by kernel_rfl
  have hn : (Tryf.t23.str).toByteArray.data.toList = name23 := by kernel_rfl
  have d2 : Tryf.t23.desc = .slice 5 := rfl
  have hb : (FmtStop.bare (FmtStop.asked true 113 false) 23).run Tryf.prog w = .ok true w := by kernel_rfl
  have hs : (FmtStop.scalar 5).run Tryf.prog w = .ok true w := by kernel_rfl
  have hy : (Extern.Stop.isByte 5).run Tryf.prog w = .ok true w := by kernel_rfl
  have hsh : (FmtStop.shape name (FmtStop.asked true 113 false) FmtStop.depth 5).run Tryf.prog w = .ok (6 :: FmtStop.pack "uint8".toUTF8.data.toList) w := by kernel_rfl
  have hl := run_loadCells_list (P := Tryf.prog) w a (xs.map (Value.int .u8)) hc
  rw [List.length_map] at hl
  have hw : Tryf.prog.funcs.any (fun f => f.name == FmtStop.writeWord) = true := by kernel_rfl
  simp [FmtStop.operand, h1, hb, hs, hy, hsh, hl, values5, shape23, FmtText.intValues, hn]
  intro hno
  obtain ⟨i, hi, _, _, he⟩ := Array.any_iff_exists.1 hw
  exact absurd (by simpa using he) (hno i hi)

theorem opNil (name : String) (w : World) : (FmtStop.operand name true 113 false (.iface 23 (.slice none 0 0))).run Tryf.prog w = .ok (shape23, [0]) w := by kernel_rfl

/-- v is a slice of bytes whose cells hold xs. -/
def BytesIs (w : World) (v : Value) (xs : List Int) : Prop :=
  (v = .slice none 0 0 ∧ xs = []) ∨ ∃ a cap, v = .slice (some a) xs.length cap ∧ ∀ j u, (xs.map (Value.int .u8))[j]? = some u → w.cell? (a.add j) = some u

theorem BytesIs.cells {w w' : World} {v : Value} {xs : List Int} (h : BytesIs w v xs) (hw : ∀ a u, w.cell? a = some u → w'.cell? a = some u) : BytesIs w' v xs := by
  rcases h with h | ⟨a, cap, hv, hc⟩
  · exact Or.inl h
  · exact Or.inr ⟨a, cap, hv, fun j u hj => hw _ _ (hc j u hj)⟩

theorem BytesIs.later {w w' : World} {v : Value} {xs : List Int} (h : BytesIs w v xs) (hb : Below w.heap.size w w') : BytesIs w' v xs :=
  h.cells fun _ _ hc => cell_later hb hc

theorem BytesIs.op {w : World} {v : Value} {xs : List Int} (h : BytesIs w v xs) (name : String) :
    ∃ val, (FmtStop.operand name true 113 false (.iface 23 v)).run Tryf.prog w = .ok (shape23, val) w := by
  rcases h with ⟨rfl, rfl⟩ | ⟨a, cap, rfl, hc⟩
  · exact ⟨_, opNil name w⟩
  · exact ⟨_, opBytes name a cap xs w hc⟩

theorem BytesIs.conv {w : World} {v : Value} {xs : List Int} (h : BytesIs w v xs) : (convert 23 9 v).run Tryf.prog w = .ok (.string (strOfNums xs)) w := by
  rcases h with ⟨rfl, rfl⟩ | ⟨a, cap, rfl, hc⟩
  · exact run_convert_bytes_nil w 23 5 Tryf.underlying23 Tryf.underlying5 0 0 9 Tryf.underlying9
  · have hl := run_loadCells_list (P := Tryf.prog) w a (xs.map (Value.int .u8)) hc
    rw [List.length_map] at hl
    rw [run_convert_bytes_string w 23 9 5 _ xs.length cap Tryf.underlying23 Tryf.underlying5 Tryf.underlying9, run_bytesToString w _ xs.length cap xs hl, foldl_push_bytes]
    simp [strOfNums, ByteArray.empty, ByteArray.emptyWithCapacity]
    rfl

end Go.Proofs.Qxb6623336aFmt
