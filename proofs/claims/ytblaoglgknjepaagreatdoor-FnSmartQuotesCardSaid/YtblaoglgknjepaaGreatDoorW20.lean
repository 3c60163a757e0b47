/- The scan's state. -/
import Derived.Test.YtblaoglgknjepaaGreatDoorW19
import Derived.Test.YtblaoglgknjepaaGreatDoorEngB
namespace Go.Proofs
open Go Go.Eng
set_option maxRecDepth 20000
set_option maxHeartbeats 8000000

/-- Where the scan for inlines stands. -/
structure LS where
  d : List Tok
  r : List Tok
  e : Nat
  vals : List Value
  v : Value
  LB : Blk
  IB : Blk

theorem SubH.nil2 {a b : Blk} : SubH [a, b] [a, b, [], []] := ⟨[], by simp⟩

end Go.Proofs
