import Derived.Test.Qxb6603076aRows
import Derived.WalkKit
import Derived.ProofKit
import Derived.Below
import Derived.WalkSpells
import Derived.WalkLawsBesides
import Derived.Deep.QuietTactic
import Derived.BigQuiet
namespace Go.Proofs.Qxb6603076a
open Go.ChangeShapes Go.WideShapes Go.ChangeAt Go.RowKit

theorem bytes8_yes (a : Option Addr) (n c : Nat) (p d : Int) (w : World) (hn : (n : Int) ≤ 1048576) :
    Calls Try.prog 8 #[.slice a n c, .int .i64 p, .int .i64 d] w fun e w' => e = .returned (.bool true) ∧ w' = w := by
  go_enter Try.func8, Try.ntmps8
  go_wp2
  go_ret
  exact ⟨rfl, rfl⟩

theorem bytes8_no (a : Option Addr) (n c : Nat) (p d : Int) (w : World) (hn : (1048576 : Int) < n) :
    Calls Try.prog 8 #[.slice a n c, .int .i64 p, .int .i64 d] w fun e w' => e = .returned (.bool false) ∧ w' = w := by
  go_enter Try.func8, Try.ntmps8
  go_wp2
  go_ret
  exact ⟨rfl, rfl⟩

def isSp (b : Int) : Bool := b == 32 || b == 9 || b == 10 || b == 13

theorem isSpace_any (b : Int) (w : World) :
    Calls Try.prog 11 #[.int .u8 b] w fun e w' => e = .returned (.bool (isSp b)) ∧ w' = w := by
  unfold isSp
  go_enter Try.func11, Try.ntmps11
  go_wp2
  all_goals (go_ret; simp [*])

end Go.Proofs.Qxb6603076a
