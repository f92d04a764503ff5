/- Seat b6623333a: what is said of zzBytes's answer. -/
import Derived.Test.Qxb6623333aDefs
namespace Go.Proofs.Qxb6623333a

/-- The call handed back a bool; where it is true, p holds. -/
def IsBool (p : Prop) (e : Ending) : Prop := ∃ r : Bool, e = .returned (.bool r) ∧ (r = true → p)
theorem isBool_no (p : Prop) : IsBool p (.returned (.bool false)) := ⟨false, rfl, fun h => by cases h⟩
theorem isBool_yes {p : Prop} (h : p) : IsBool p (.returned (.bool true)) := ⟨true, rfl, fun _ => h⟩
end Go.Proofs.Qxb6623333a
