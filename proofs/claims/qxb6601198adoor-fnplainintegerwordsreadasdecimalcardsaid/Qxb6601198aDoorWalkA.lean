import Derived.Test.Qxb6601198aDoorProg
import Derived.Test.Qxb6601198aDoorPlain
import Derived.Lib.ConvBytes
import Derived.Lib.AtoiAllMem
import Derived.Lib.AtoiErrMem
import Derived.Lib.IndexBytes
import Derived.Lib.Hide
import Derived.Laws.Strings3
import Derived.WalkSpells
import Derived.WalkLawsBesides
namespace Go.Proofs.Qxb6601198aDoor
open Go.RowKit

theorem lower33 (c : Nat) (h : c < 256) (w : World) :
    Calls Tryd.prog 33 #[.int .u8 (c : Int)] w fun e w' => e = .returned (.int .u8 ((c ||| 32 : Nat) : Int)) ∧ w' = w := by
  have h1 := u8_or_nat c 32 h (by decide)
  rw [← h1]
  clear h1
  go_enter Tryd.func33, Tryd.ntmps33
  go_wp2
  go_ret
  exact ⟨rfl, rfl⟩

end Go.Proofs.Qxb6601198aDoor
