/-
  Seat oeao: THE SEVEN zzBytes_X ('do the lengths sum to at most 1<<20?'): each only reads; where it answers true the sum is bounded.
-/
import Derived.Test.YoeaowStrs
namespace Go.Proofs.Yoeaow
open Go.RowKit
open Go.Proofs.Yoeaow.Pl

/-- Some answer; the world as it was; where the answer is yes: the sum is at most 1<<20. (A name that the walk does not open.) -/
def Sized (sum : Nat) (w : World) (e : Ending) (w' : World) : Prop := ∃ r : Bool, e = .returned (.bool r) ∧ w' = w ∧ (r = true → sum ≤ 1048576)
theorem Sized.no (sum : Nat) (w : World) : Sized sum w (.returned (.bool false)) w := ⟨false, rfl, rfl, fun h => by cases h⟩
theorem Sized.yes {sum : Nat} {w : World} (h : sum ≤ 1048576) : Sized sum w (.returned (.bool true)) w := ⟨true, rfl, rfl, fun _ => h⟩

end Go.Proofs.Yoeaow
