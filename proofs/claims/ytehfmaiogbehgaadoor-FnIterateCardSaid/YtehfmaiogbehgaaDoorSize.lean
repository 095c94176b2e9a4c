/-
  What a measure shows: the word alone.
  Conditions: none.
-/
import Derived.Test.YtehfmaiogbehgaaDoorFit3
namespace Go.Proofs.YtehfmaiogbehgaaDoor
open Go.RowKit

def SizeAns (w : World) (P : Prop) (e : Ending) (w' : World) : Prop := ∃ b, e = .returned (.bool b) ∧ Old w w' ∧ (b = true → P)
end Go.Proofs.YtehfmaiogbehgaaDoor
