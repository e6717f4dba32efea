/- How many names there are; what the two laws' walks come to. -/
import Derived.Test.Qxb6602856aGiven
namespace Go.Proofs.Qxb6602856a
open Go.RowKit

theorem G_flag_len (a b c d : Bool) : (G nm (flag a b c d) 4).length = tally a b c d := by
  cases a <;> cases b <;> cases c <;> cases d <;> rfl

theorem tally_le (a b c d : Bool) : tally a b c d ≤ 4 := by cases a <;> cases b <;> cases c <;> cases d <;> decide

def Yes (w : World) (e : Ending) (w' : World) : Prop := e = .returned (.bool true) ∧ Below w.heap.size w w'

end Go.Proofs.Qxb6602856a
