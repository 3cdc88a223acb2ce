import Derived.Test.Qxb6606138aDoorFrame2
namespace Go.Proofs.Qxb6606138aDoor
/-- A whole frame of N slots, nothing deferred. -/
structure Fr (a : Act) (N : Nat) : Prop where
  df : a.defers = []
  sz : a.tmps.size = N
end Go.Proofs.Qxb6606138aDoor
