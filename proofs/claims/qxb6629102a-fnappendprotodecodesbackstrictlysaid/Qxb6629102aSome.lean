import Derived.Test.Qxb6629102aProto
namespace Go.Proofs.Qxb6629102a
/-- the call ends with one of the two bools -/
def SomeBool (e : Ending) : Prop := ∃ b, e = .returned (.bool b)
end Go.Proofs.Qxb6629102a
