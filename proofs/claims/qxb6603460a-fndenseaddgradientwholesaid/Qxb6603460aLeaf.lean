import Derived.Test.Qxb6603460aRows
import Derived.Test.Qxb6603460aFl
import Derived.ProofKit
import Derived.Below
import Derived.Deep.QuietTactic
import Derived.BigQuiet
import Derived.Deep.OwnRows
namespace Go.Proofs.Qxb6603460a
open Go.ChangeShapes Go.WideShapes Go.ChangeAt Go.RowKit
set_option linter.unusedVariables false

theorem nan_dec (x : Nat) : isN x ∨ ¬ isN x := Classical.em _

theorem sameF_true (a b : Nat) (h : Eqv a b) (w : World) :
    Calls Try.prog 16 #[.float .f64 a, .float .f64 b] w fun e w' => e = .returned (.bool true) ∧ ∃ n, w' = w.drewN n := by
  have hq := fun wx x y => run_quo (P := Try.prog) wx 32 x y
  rcases nan_dec a with hn | hn
  · have o1 := order_nan_l (y := a) hn
    have o2 := order_nan_l (y := b) (h.nan hn)
    go_enter Try.func16, Try.ntmps16
    go_wp2
    go_ret
    exact ⟨rfl, 0, rfl⟩
  · have o1 := order_self hn
    by_cases hz : FloatKind.f64.format.order a 0 = some .eq
    · have hz2 : FloatKind.f64.format.order b 0 = some .eq := (order_eqv h (Eqv.refl 0)).symm.trans hz
      obtain ⟨s, e, hr⟩ := zero_of_order hz
      obtain ⟨r, hr1, hr2⟩ := one_over_zero hr
      have hr3 : floatBits .quo .f64 4607182418800017408 b = some r := (floatBits_eqv (Eqv.refl _) h).symm.trans hr1
      have f1 : ∀ wx, fop .quo 4607182418800017408 a wx = r := fun wx => by simp [fop, hr1]
      have f2 : ∀ wx, fop .quo 4607182418800017408 b wx = r := fun wx => by simp [fop, hr3]
      have o3 := order_self hr2
      clear hr hr1 hr2 hr3 h hn
      go_enter Try.func16, Try.ntmps16
      go_wp2
      go_ret
      exact ⟨rfl, _, rfl⟩
    · have o3 : FloatKind.f64.format.order a b = some .eq := (order_eqv (Eqv.refl a) h).symm.trans o1
      have hz' : (FloatKind.f64.format.order a 0 == some .eq) = false := by simpa using hz
      go_enter Try.func16, Try.ntmps16
      go_wp2
      go_ret
      exact ⟨rfl, 0, rfl⟩

/-- b1Relu. -/
theorem relu_any (a : Nat) (w : World) :
    Calls Try.prog 15 #[.float .f64 a] w fun e w' => ∃ r, e = .returned (.float .f64 r) ∧ Eqv r (relu a) ∧ w' = w := by
  rcases nan_dec a with hn | hn
  · have o1 := order_nan_l (y := a) hn
    have o2 := order_nan_l (y := 0) hn
    go_enter Try.func15, Try.ntmps15
    go_wp2
    go_ret
    refine ⟨a, rfl, ?_, rfl⟩
    simp only [relu, o2]
    exact .inr ⟨hn, isN_qnan⟩
  · have o1 := order_self hn
    by_cases hz : FloatKind.f64.format.order a 0 = some .gt
    · go_enter Try.func15, Try.ntmps15
      go_wp2
      go_ret
      refine ⟨a, rfl, ?_, rfl⟩
      simp only [relu, hz]
      exact Eqv.refl _
    · have hz' : (FloatKind.f64.format.order a 0 == some .gt) = false := by simpa using hz
      go_enter Try.func15, Try.ntmps15
      go_wp2
      go_ret
      refine ⟨0, rfl, ?_, rfl⟩
      unfold relu
      cases ho : FloatKind.f64.format.order a 0 with
      | none =>
        exfalso
        apply hn
        simp only [FloatKind.format, Ieee.Format.order] at ho
        have h0 : Ieee.double.read 0 = .number false 0 (-1074) := by decide +kernel
        rw [h0] at ho
        unfold isN
        cases hr : Ieee.double.read a <;> simp [hr, Ieee.Datum.order] at ho
        rfl
      | some c => cases c <;> first | exact Eqv.refl _ | exact absurd ho hz

theorem layerSize_any (i o : Int) (w : World) (h0 : 0 ≤ i) (h1 : i ≤ 1048576) (h2 : 0 ≤ o * (i + 1)) (h3 : o * (i + 1) ≤ 1048576) :
    Calls Try.prog 27 #[.int .i64 i, .int .i64 o] w fun e w' => e = .returned (.int .i64 (o * (i + 1))) ∧ w' = w := by
  go_enter Try.func27, Try.ntmps27
  go_wp2
  go_ret
  exact ⟨rfl, rfl⟩

end Go.Proofs.Qxb6603460a
