/-
  The parts of a text, as the functions hand them out.
-/
import Derived.Test.Qxb6602829aSkip
namespace Go.Proofs.Qxb6602829a.Split
open Go.RowKit

theorem hid_of {p : Prop} (h : p) : Hid p := h

def pneg (o : Option Parts) : Bool := match o with | some p => p.neg | none => false
def pint (o : Option Parts) : ByteArray := match o with | some p => p.int | none => nothing
def pfrac (o : Option Parts) : ByteArray := match o with | some p => p.frac | none => nothing
def pnegx (o : Option Parts) : Bool := match o with | some p => p.negx | none => false
def pexpo (o : Option Parts) : ByteArray := match o with | some p => p.expo | none => nothing
def pok (o : Option Parts) : Bool := match o with | some _ => true | none => false

/-- Six results. -/
def six (o : Option Parts) : Value := .tuple #[.bool (pneg o), .string (pint o), .string (pfrac o), .bool (pnegx o), .string (pexpo o), .bool (pok o)]
end Go.Proofs.Qxb6602829a.Split
