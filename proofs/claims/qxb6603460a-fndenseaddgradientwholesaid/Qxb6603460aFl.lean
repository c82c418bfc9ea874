import Derived.WalkKit
import Derived.WalkSpells
import Derived.WalkLawsBesides
namespace Go.Proofs.Qxb6603460a
open Go.RowKit
set_option linter.unusedVariables false

/-- A not-a-number. -/
def isN (x : Nat) : Prop := (Ieee.double.read x).isNaN = true

/-- They stand for the same, or are both not-a-number. -/
def Eqv (x y : Nat) : Prop := Ieee.double.read x = Ieee.double.read y ∨ (isN x ∧ isN y)

theorem Eqv.refl (x : Nat) : Eqv x x := .inl rfl
theorem isN_of_read {x y : Nat} (h : Ieee.double.read x = Ieee.double.read y) (hx : isN x) : isN y := by unfold isN at *; rw [← h]; exact hx
theorem Eqv.nan {x y : Nat} (h : Eqv x y) (hx : isN x) : isN y := by
  rcases h with h | h
  · exact isN_of_read h hx
  · exact h.2
theorem Eqv.symm {x y : Nat} (h : Eqv x y) : Eqv y x := by
  rcases h with h | ⟨a, b⟩
  · exact .inl h.symm
  · exact .inr ⟨b, a⟩
theorem Eqv.trans {x y z : Nat} (h : Eqv x y) (k : Eqv y z) : Eqv x z := by
  rcases h with h | ⟨a, b⟩
  · rcases k with k | ⟨c, d⟩
    · exact .inl (h.trans k)
    · exact .inr ⟨isN_of_read h.symm c, d⟩
  · exact .inr ⟨a, k.nan b⟩

/-- One not-a-number, to name it by. -/
def qnan : Nat := 9221120237041090561

theorem isN_read {x : Nat} (h : isN x) : ∃ s t, Ieee.double.read x = .nan s t := by
  unfold isN at h
  cases hr : Ieee.double.read x with
  | number s m e => simp [hr, Ieee.Datum.isNaN] at h
  | infinity s => simp [hr, Ieee.Datum.isNaN] at h
  | nan s t => exact ⟨s, t, rfl⟩

theorem isN_qnan : isN qnan := by unfold isN qnan; decide +kernel

/-- The bits that the tape gives for an invalid operation are those of a not-a-number. -/
theorem isN_drawn (t : Nat) : isN ((t % 2) * 2 ^ 63 + 0x7ff0000000000000 + 1 + (t / 2) % (2 ^ 52 - 1)) := by
  unfold isN
  generalize ha : t % 2 = a
  generalize hb : (t / 2) % (2 ^ 52 - 1) = b
  have h1 : a < 2 := by omega
  have h2 : b < 2 ^ 52 - 1 := by rw [← hb]; exact Nat.mod_lt _ (by decide)
  have e : (a * 2 ^ 63 + 0x7ff0000000000000 + 1 + b) % 9223372036854775808 = 9218868437227405312 + 1 + b := by omega
  have hs : Ieee.double.signWeight = 9223372036854775808 := by decide
  have hi : Ieee.double.infRung = 9218868437227405312 := by decide
  have hbn : Ieee.double.binade = 4503599627370496 := by decide
  simp only [Ieee.Format.read, hs, hi, hbn, e]
  rw [if_neg (by omega), if_neg (by omega), if_neg (by omega)]
  rfl

/-- The bits after an operation, and how many draws it has taken. -/
def fop (op : BinOp) (x y : Nat) (w : World) : Nat :=
  match floatBits op .f64 x y with
  | some r => r
  | none => (Question.nanBits .f64 x y).cut (w.tape w.drawn (.nanBits .f64 x y))
def fdr (op : BinOp) (x y : Nat) : Nat := match floatBits op .f64 x y with | some _ => 0 | none => 1

/-- The operation, one name for every not-a-number. -/
def can (op : BinOp) (x y : Nat) : Nat := (floatBits op .f64 x y).getD qnan

def isArith : BinOp → Bool
  | .add | .sub | .mul | .quo => true
  | _ => false

theorem run_fop {P : Program} (w : World) (op : BinOp) (h : isArith op = true) (t : TypeId) (x y : Nat) :
    (binOp op t (.float .f64 x) (.float .f64 y)).run P w = .ok (.float .f64 (fop op x y w)) (w.drewN (fdr op x y)) := by
  cases op <;> simp [isArith] at h
  · cases ho : FloatKind.f64.format.add x y <;> simp [fop, fdr, floatBits, binOp, Op.floatArith, ho, World.drewN, Question.forced] <;> rfl
  · cases ho : FloatKind.f64.format.sub x y <;> simp [fop, fdr, floatBits, binOp, Op.floatArith, ho, World.drewN, Question.forced] <;> rfl
  · cases ho : FloatKind.f64.format.mul x y <;> simp [fop, fdr, floatBits, binOp, Op.floatArith, ho, World.drewN, Question.forced] <;> rfl
  · cases ho : FloatKind.f64.format.div x y <;> simp [fop, fdr, floatBits, binOp, Op.floatArith, ho, World.drewN, Question.forced] <;> rfl

theorem run_add {P : Program} (w : World) (t : TypeId) (x y : Nat) : (binOp .add t (.float .f64 x) (.float .f64 y)).run P w = .ok (.float .f64 (fop .add x y w)) (w.drewN (fdr .add x y)) := run_fop w .add rfl t x y
theorem run_sub {P : Program} (w : World) (t : TypeId) (x y : Nat) : (binOp .sub t (.float .f64 x) (.float .f64 y)).run P w = .ok (.float .f64 (fop .sub x y w)) (w.drewN (fdr .sub x y)) := run_fop w .sub rfl t x y
theorem run_mul {P : Program} (w : World) (t : TypeId) (x y : Nat) : (binOp .mul t (.float .f64 x) (.float .f64 y)).run P w = .ok (.float .f64 (fop .mul x y w)) (w.drewN (fdr .mul x y)) := run_fop w .mul rfl t x y
theorem run_quo {P : Program} (w : World) (t : TypeId) (x y : Nat) : (binOp .quo t (.float .f64 x) (.float .f64 y)).run P w = .ok (.float .f64 (fop .quo x y w)) (w.drewN (fdr .quo x y)) := run_fop w .quo rfl t x y

theorem floatBits_nan_l {op : BinOp} {x y : Nat} (h : isN x) : floatBits op .f64 x y = none := by
  obtain ⟨s, t, hr⟩ := isN_read h
  cases op <;> simp [floatBits, FloatKind.format, Ieee.Format.add, Ieee.Format.sub, Ieee.Format.mul, Ieee.Format.div, hr, Ieee.Datum.sum, Ieee.Datum.product, Ieee.Datum.quotient]

theorem floatBits_nan_r {op : BinOp} {x y : Nat} (h : isN y) : floatBits op .f64 x y = none := by
  obtain ⟨s, t, hr⟩ := isN_read h
  cases op <;> simp [floatBits, FloatKind.format, Ieee.Format.add, Ieee.Format.sub, Ieee.Format.mul, Ieee.Format.div, hr, Ieee.Datum.opposite] <;>
    (cases Ieee.double.read x <;> simp [Ieee.Datum.sum, Ieee.Datum.product, Ieee.Datum.quotient])

theorem floatBits_read {op : BinOp} {x x' y y' : Nat} (hx : Ieee.double.read x = Ieee.double.read x') (hy : Ieee.double.read y = Ieee.double.read y') : floatBits op .f64 x y = floatBits op .f64 x' y' := by
  cases op <;> simp [floatBits, FloatKind.format, Ieee.Format.add, Ieee.Format.sub, Ieee.Format.mul, Ieee.Format.div, hx, hy]

theorem floatBits_eqv {op : BinOp} {x x' y y' : Nat} (hx : Eqv x x') (hy : Eqv y y') : floatBits op .f64 x y = floatBits op .f64 x' y' := by
  rcases hx with hx | ⟨a, b⟩
  · rcases hy with hy | ⟨c, d⟩
    · exact floatBits_read hx hy
    · rw [floatBits_nan_r c, floatBits_nan_r d]
  · rw [floatBits_nan_l a, floatBits_nan_l b]

/-- An operation is canonical up to the bits of a not-a-number. -/
theorem fop_eqv {op : BinOp} {x x' y y' : Nat} (w : World) (hx : Eqv x x') (hy : Eqv y y') : Eqv (fop op x y w) (can op x' y') := by
  unfold fop can
  rw [← floatBits_eqv hx hy]
  cases h : floatBits op .f64 x y with
  | some r => exact .inl rfl
  | none => exact .inr ⟨isN_drawn _, isN_qnan⟩

theorem can_eqv {op : BinOp} {x x' y y' : Nat} (hx : Eqv x x') (hy : Eqv y y') : can op x y = can op x' y' := by
  unfold can; rw [floatBits_eqv hx hy]

theorem run_storeF {P : Program} (w : World) (a : Addr) (m : Mode) (b : Nat) : (store a (.float .f64 b) m).run P w = stored P w a (.float .f64 b) m := run_store P w a _ m rfl

/-! ### the order -/
theorem order_nan_l {x y : Nat} (h : isN x) : FloatKind.f64.format.order x y = none := by
  obtain ⟨s, t, hr⟩ := isN_read h
  simp [FloatKind.format, Ieee.Format.order, hr, Ieee.Datum.order]
theorem order_nan_r {x y : Nat} (h : isN y) : FloatKind.f64.format.order x y = none := by
  obtain ⟨s, t, hr⟩ := isN_read h
  simp only [FloatKind.format, Ieee.Format.order, hr]
  cases Ieee.double.read x <;> simp [Ieee.Datum.order]
theorem order_self {x : Nat} (h : ¬ isN x) : FloatKind.f64.format.order x x = some .eq := by
  simp only [FloatKind.format, Ieee.Format.order]
  unfold isN at h
  cases hr : Ieee.double.read x with
  | number s m e => simp [Ieee.Datum.order]
  | infinity s => simp [Ieee.Datum.order]
  | nan s t => simp [hr, Ieee.Datum.isNaN] at h

theorem order_eqv {x x' y y' : Nat} (hx : Eqv x x') (hy : Eqv y y') : FloatKind.f64.format.order x y = FloatKind.f64.format.order x' y' := by
  rcases hx with hx | ⟨a, b⟩
  · rcases hy with hy | ⟨c, d⟩
    · simp [FloatKind.format, Ieee.Format.order, hx, hy]
    · rw [order_nan_r c, order_nan_r d]
  · rw [order_nan_l a, order_nan_l b]

theorem signed_zero {s : Bool} {m k : Nat} (h : Ieee.signed s m k = 0) : m = 0 := by
  unfold Ieee.signed at h
  have h2 : m <<< k = 0 := by
    split at h <;> omega
  rw [Nat.shiftLeft_eq] at h2
  rcases Nat.mul_eq_zero.1 h2 with h3 | h3
  · exact h3
  · have := Nat.two_pow_pos k
    omega

/-- What equals zero is a zero. -/
theorem zero_of_order {x : Nat} (h : FloatKind.f64.format.order x 0 = some .eq) : ∃ s e, Ieee.double.read x = .number s 0 e := by
  simp only [FloatKind.format, Ieee.Format.order] at h
  have h0 : Ieee.double.read 0 = .number false 0 (-1074) := by decide +kernel
  rw [h0] at h
  cases hr : Ieee.double.read x with
  | number s m e =>
    rw [hr] at h
    simp only [Ieee.Datum.order, Option.some.injEq] at h
    have h1 := Int.compare_eq_eq.1 h
    have h2 : Ieee.signed false 0 (-1074 - min e (-1074)).toNat = 0 := by simp [Ieee.signed]
    rw [h2] at h1
    have := signed_zero h1
    subst this
    exact ⟨s, e, rfl⟩
  | infinity s => rw [hr] at h; cases s <;> simp [Ieee.Datum.order] at h
  | nan s t => rw [hr] at h; simp [Ieee.Datum.order] at h

/-- One over a zero. -/
theorem one_over_zero {x : Nat} {s : Bool} {e : Int} (h : Ieee.double.read x = .number s 0 e) : ∃ r, floatBits .quo .f64 4607182418800017408 x = some r ∧ ¬ isN r := by
  have h1 : Ieee.double.read 4607182418800017408 = .number false 4503599627370496 (-52) := by decide +kernel
  simp only [floatBits, FloatKind.format, Ieee.Format.div, h1, h, Ieee.Datum.quotient]
  cases s
  · exact ⟨_, rfl, by unfold isN; decide +kernel⟩
  · exact ⟨_, rfl, by unfold isN; decide +kernel⟩

/-! ### max(x, 0) -/
def fmx (x : Nat) (w : World) : Nat :=
  match FloatKind.f64.format.order x 0 with
  | none => (Question.nanMinMax .f64 true x 0).cut (w.tape w.drawn (.nanMinMax .f64 true x 0))
  | some .lt => 0
  | some .gt => x
  | some .eq => if (FloatKind.f64.decode x).neg then 0 else x
def fmd (x : Nat) : Nat := match FloatKind.f64.format.order x 0 with | none => 1 | some _ => 0

theorem run_max {P : Program} (w : World) (ts : Array TypeId) (t : TypeId) (x : Nat) :
    (Builtin.max_ ts t #[.float .f64 x, .float .f64 0]).run P w = .ok (.float .f64 (fmx x w)) (w.drewN (fmd x)) := by
  cases ho : FloatKind.f64.format.order x 0 with
  | none => simp [fmx, fmd, Builtin.max_, Builtin.max2, ho, World.drewN, Question.forced]
  | some c => cases c <;> simp [fmx, fmd, Builtin.max_, Builtin.max2, ho, World.drewN]

/-- The rectified value. -/
def relu (x : Nat) : Nat :=
  match FloatKind.f64.format.order x 0 with
  | none => qnan
  | some .gt => x
  | _ => 0

theorem zero_read_pos {x : Nat} (h : FloatKind.f64.format.order x 0 = some .eq) (hn : ¬ (FloatKind.f64.decode x).neg = true) : Eqv x 0 := by
  obtain ⟨s, e, hr⟩ := zero_of_order h
  refine .inl ?_
  have h0 : Ieee.double.read 0 = .number false 0 (-1074) := by decide +kernel
  have hs : s = false := by
    simp only [FloatKind.decode, FloatKind.format, hr, Ieee.Datum.neg] at hn
    simpa using hn
  subst hs
  rw [h0, hr]
  have hx := hr
  simp only [Ieee.Format.read] at hx
  have hlp : Ieee.double.leastPlace = -1074 := by decide +kernel
  split at hx
  · rw [hlp] at hx
    simp only [Ieee.Datum.number.injEq] at hx
    rw [hx.2.2]
  · split at hx
    · simp only [Ieee.Datum.number.injEq] at hx
      have hb : Ieee.double.binade = 4503599627370496 := by decide +kernel
      omega
    · split at hx <;> cases hx

theorem fmx_eqv {x x' : Nat} (w : World) (hx : Eqv x x') : Eqv (fmx x w) (relu x') := by
  have ho := order_eqv hx (Eqv.refl 0)
  unfold fmx relu
  rw [← ho]
  cases h : FloatKind.f64.format.order x 0 with
  | none => exact .inr ⟨isN_drawn _, isN_qnan⟩
  | some c =>
    cases c with
    | lt => exact Eqv.refl 0
    | gt => exact hx
    | eq =>
      dsimp only
      split
      · exact Eqv.refl 0
      · rename_i hn
        exact zero_read_pos h hn

theorem relu_eqv {x x' : Nat} (hx : Eqv x x') : Eqv (relu x) (relu x') := by
  unfold relu
  rw [← order_eqv hx (Eqv.refl 0)]
  cases h : FloatKind.f64.format.order x 0 with
  | none => exact Eqv.refl _
  | some c => cases c <;> first | exact Eqv.refl _ | exact hx

end Go.Proofs.Qxb6603460a
