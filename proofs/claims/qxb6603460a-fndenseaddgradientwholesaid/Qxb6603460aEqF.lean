import Derived.Test.Qxb6603460aLeaf
import Derived.Test.Qxb6603460aFn
namespace Go.Proofs.Qxb6603460a
open Go.ChangeShapes Go.WideShapes Go.ChangeAt Go.RowKit
set_option linter.unusedVariables false

/-- b1EqF of numbers that are equal but for the sign of zero. -/
theorem eqF_true (a b : Nat) (h : NEq a b) (w : World) :
    Calls Try.prog 19 #[.float .f64 a, .float .f64 b] w fun e w' => e = .returned (.bool true) ∧ w' = w := by
  rcases nan_dec a with hn | hn
  · have o1 := order_nan_l (y := a) hn
    have o2 := order_nan_l (y := b) (h.nan hn)
    go_enter Try.func19, Try.ntmps19
    go_wp2
    go_ret
    exact ⟨rfl, rfl⟩
  · have o1 := order_self hn
    have o2 : FloatKind.f64.format.order a b = some .eq := (order_neq (NEq.refl a) h).symm.trans o1
    go_enter Try.func19, Try.ntmps19
    go_wp2
    go_ret
    exact ⟨rfl, rfl⟩

/-- A finite number. -/
def isFin (x : Nat) : Prop := ∃ s m e, Ieee.double.read x = .number s m e

def FinPost (a : Nat) (w : World) (e : Ending) (w' : World) : Prop := ∃ b, e = .returned (.bool b) ∧ (∃ n, w' = w.drewN n) ∧ (b = true → isFin a)

theorem finite_any (a : Nat) (w : World) : Calls Try.prog 18 #[.float .f64 a] w (FinPost a w) := by
  have hs := fun wx x y => run_sub (P := Try.prog) wx 32 x y
  go_enter Try.func18, Try.ntmps18
  go_wp2
  go_ret
  refine ⟨_, rfl, ⟨_, rfl⟩, fun hb => ?_⟩
  cases hr : Ieee.double.read a with
  | number s m e => exact ⟨s, m, e, hr⟩
  | infinity s =>
    exfalso
    have hn : isN (fop .sub a a w) := by
      have h0 : floatBits .sub .f64 a a = none := by
        show ((Ieee.double.read a).sum (Ieee.double.read a).opposite).map _ = none
        rw [hr]; cases s <;> rfl
      simp only [fop, h0]
      exact isN_drawn _
    rw [order_nan_l hn] at hb
    cases hb
  | nan s t =>
    exfalso
    have ha : isN a := by unfold isN; rw [hr]; rfl
    have hn : isN (fop .sub a a w) := by
      simp only [fop, floatBits_nan_l ha]
      exact isN_drawn _
    rw [order_nan_l hn] at hb
    cases hb

end Go.Proofs.Qxb6603460a
