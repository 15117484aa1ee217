/-
  CLOSED FACTS OF THE PROGRAM, each a declaration of its own.
-/
import Derived.Test.Qxb6600010aRows
import Derived.Test.Qxb6600010aBase
import Derived.JoinedOf
namespace Go.Proofs.Qxb6600010a
theorem pMaps : mapsRowed Try.prog = true := by kernel_rfl
theorem pStops : (Try.prog.stops == []) = true := by kernel_rfl
theorem pKnobs : (Try.prog.stopKnobs == []) = true := by kernel_rfl
theorem pPlain : (false == Try.prog.plainKeys) = true := by kernel_rfl
theorem pHeard : Try.prog.stopsHeard = true := by kernel_rfl
theorem pEnter : Try.prog.mayEnter = true := by kernel_rfl
theorem pLifts : (Rows.fnWalkFindsShortestPathsRow.lifted == Try.prog.liftsFinal) = true := by kernel_rfl
theorem pMake : (Try.prog.make == some Rows.fnWalkFindsShortestPathsRow.make) = true := by kernel_rfl
theorem and_t {x y : Bool} (hx : x = true) (hy : y = true) : (x && y) = true := by rw [hx, hy]; rfl
end Go.Proofs.Qxb6600010a
