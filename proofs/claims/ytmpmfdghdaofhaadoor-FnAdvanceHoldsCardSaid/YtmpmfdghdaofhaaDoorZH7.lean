/- Texts of this claim, joined; what isn't needed is left out (wip/slim.py). -/
import Derived.Test.YtmpmfdghdaofhaaDoorZH5
namespace Go.Proofs.YtmpmfdghdaofhaaDoorW.PrintLast
def up (b : Nat → Bool) (i : Nat) : Nat → Bool := fun j => if j = i then true else b j
end Go.Proofs.YtmpmfdghdaofhaaDoorW.PrintLast
