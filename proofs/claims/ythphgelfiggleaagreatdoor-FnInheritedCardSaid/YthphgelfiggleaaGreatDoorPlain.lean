/-
  Plain lists, no program: what merged of package spec makes of the pieces of a path.
-/
import Derived.KernelRfl
namespace Go.Proofs.YthphgelfiggleaaGreatDoor

abbrev Bytes := List UInt8

/-- One step of a path beside the steps that are kept; last: it is the path's last one. -/
def stepL (last : Bool) (out : List Bytes) (x : Bytes) : List Bytes :=
  if x = [46] then (if last then out ++ [[]] else out)
  else if x = [46, 46] then (if last then out.dropLast ++ [[]] else out.dropLast)
  else out ++ [x]

def runL : List Bytes → List Bytes → List Bytes
  | out, [] => out
  | out, x :: r => runL (stepL r.isEmpty out x) r

/-- A slash and each step. -/
def cat (out : List Bytes) : Bytes := (out.map fun x => 47 :: x).flatten

/-- What merged makes of the pieces of a path. -/
def mergedL (pieces : List Bytes) : Bytes := cat (runL [] pieces.tail)

theorem cat_snoc (out : List Bytes) (x : Bytes) : cat (out ++ [x]) = cat out ++ 47 :: x := by simp [cat]
end Go.Proofs.YthphgelfiggleaaGreatDoor
