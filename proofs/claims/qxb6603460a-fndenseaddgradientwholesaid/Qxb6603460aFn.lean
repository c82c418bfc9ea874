import Derived.Test.Qxb6603460aFl
namespace Go.Proofs.Qxb6603460a
open Go.RowKit
set_option linter.unusedVariables false

theorem lp_eq : Ieee.double.leastPlace = -1074 := by decide +kernel
theorem sw_eq : Ieee.double.signWeight = 9223372036854775808 := by decide +kernel
theorem ir_eq : Ieee.double.infRung = 9218868437227405312 := by decide +kernel
theorem bn_eq : Ieee.double.binade = 4503599627370496 := by decide +kernel
theorem read0 : Ieee.double.read 0 = .number false 0 (-1074) := by decide +kernel

/-- How a word that is a number is read. -/
theorem read_number {x : Nat} {s : Bool} {m : Nat} {i : Int} (h : Ieee.double.read x = .number s m i) :
    s = (x / 9223372036854775808 % 2 == 1) ∧
    ((x % 9223372036854775808 < 4503599627370496 ∧ m = x % 9223372036854775808 ∧ i = -1074) ∨
     (4503599627370496 ≤ x % 9223372036854775808 ∧ x % 9223372036854775808 < 9218868437227405312 ∧ m = 4503599627370496 + x % 9223372036854775808 % 4503599627370496 ∧ i = -1074 + ((x % 9223372036854775808 / 4503599627370496 - 1 : Nat) : Int))) := by
  simp only [Ieee.Format.read, lp_eq, sw_eq, ir_eq, bn_eq] at h
  split at h
  · simp only [Ieee.Datum.number.injEq] at h
    obtain ⟨rfl, rfl, rfl⟩ := h
    rename_i h1
    exact ⟨rfl, .inl ⟨h1, rfl, rfl⟩⟩
  · split at h
    · simp only [Ieee.Datum.number.injEq] at h
      obtain ⟨rfl, rfl, rfl⟩ := h
      rename_i h1 h2
      exact ⟨rfl, .inr ⟨by omega, h2, rfl, rfl⟩⟩
    · split at h <;> cases h

theorem read_place {x : Nat} {s : Bool} {m : Nat} {i : Int} (h : Ieee.double.read x = .number s m i) : -1074 ≤ i := by
  rcases (read_number h).2 with h | h <;> omega

theorem read_zero_place {x : Nat} {s : Bool} {i : Int} (h : Ieee.double.read x = .number s 0 i) : i = -1074 := by
  rcases (read_number h).2 with h | h <;> omega

theorem read_word (s : Bool) (r : Nat) (h : r < 9218868437227405312) : Ieee.double.read (Ieee.double.word s r) =
    if r < 4503599627370496 then .number s r (-1074) else .number s (4503599627370496 + r % 4503599627370496) (-1074 + ((r / 4503599627370496 - 1 : Nat) : Int)) := by
  have e1 : Ieee.double.word s r % 9223372036854775808 = r := by
    unfold Ieee.Format.word; rw [sw_eq]; cases s <;> simp <;> omega
  have e2 : (Ieee.double.word s r / 9223372036854775808 % 2 == 1) = s := by
    unfold Ieee.Format.word; rw [sw_eq]; cases s <;> simp <;> omega
  simp only [Ieee.Format.read, lp_eq, sw_eq, ir_eq, bn_eq, e1, e2]
  by_cases h1 : r < 4503599627370496
  · rw [if_pos h1, if_pos h1]
  · rw [if_neg h1, if_neg h1, if_pos h]

theorem read_write_zero (s : Bool) (e : Int) : Ieee.double.read (Ieee.double.write (.number s 0 e)) = .number s 0 (-1074) := by
  have h : Ieee.double.write (.number s 0 e) = Ieee.double.word s 0 := by simp [Ieee.Format.write, Ieee.Format.nearest]
  rw [h, read_word s 0 (by omega)]
  rfl

theorem read_write_inf (s : Bool) : Ieee.double.read (Ieee.double.write (.infinity s)) = .infinity s := by
  cases s <;> decide +kernel

theorem cut_exact (s : Bool) (m d : Nat) (hm : m ≠ 0) : Ieee.Toward.even.cut s (m <<< d) d = m := by
  have hne : m <<< d ≠ 0 := by rw [Nat.shiftLeft_eq]; exact Nat.mul_ne_zero hm (Nat.ne_of_gt (Nat.two_pow_pos d))
  have hl : d ≤ (m <<< d).log2 := by
    rw [Nat.le_log2 hne, Nat.shiftLeft_eq]
    exact Nat.le_mul_of_pos_left _ (by omega)
  have hg : 1 <<< min d ((m <<< d).log2 + 2) = 2 ^ d := by rw [Nat.min_eq_left (by omega), Nat.shiftLeft_eq, Nat.one_mul]
  unfold Ieee.Toward.cut
  rw [hg]
  have h1 : m <<< d / 2 ^ d = m := by rw [Nat.shiftLeft_eq]; exact Nat.mul_div_cancel _ (Nat.two_pow_pos d)
  have h2 : m <<< d % 2 ^ d = 0 := by rw [Nat.shiftLeft_eq]; exact Nat.mul_mod_left _ _
  have hp := Nat.two_pow_pos d
  simp only [h1, h2]
  simp

/-- A number that a word stands for is written back as it was read. -/
theorem nearest_back {x : Nat} {s : Bool} {m : Nat} {i : Int} (h : Ieee.double.read x = .number s m i) (hm : m ≠ 0) :
    Ieee.double.read (Ieee.double.nearest s (m <<< (i - (-1074)).toNat) (-1074)) = .number s m i := by
  rcases (read_number h).2 with ⟨h1, h2, h3⟩ | ⟨h1, h2, h3, h4⟩
  · subst h3
    generalize hr : x % 9223372036854775808 = r at *
    subst h2
    have hlog : m.log2 < 52 := by rw [Nat.log2_lt hm]; omega
    have hn : Ieee.double.nearest s (m <<< ((-1074 : Int) - (-1074)).toNat) (-1074) = Ieee.double.word s m := by
      have e0 : ((-1074 : Int) - (-1074)).toNat = 0 := by decide
      rw [e0, Nat.shiftLeft_zero]
      unfold Ieee.Format.nearest
      rw [if_neg hm, lp_eq, bn_eq, ir_eq]
      have hf : Ieee.double.fractionBits = 52 := rfl
      have hlast : max (-1074 + (m.log2 : Int) - (Ieee.double.fractionBits : Nat)) (-1074) = -1074 := by rw [hf]; omega
      simp only [hlast]
      have hc := cut_exact s m 0 hm
      rw [Nat.shiftLeft_zero] at hc
      simp only [e0, Nat.shiftLeft_zero, hc, Nat.zero_mul, Nat.zero_add]
      rw [Nat.min_eq_left (by omega)]
    rw [hn, read_word s m (by omega), if_pos h1]
  · generalize hr : x % 9223372036854775808 = r at *
    generalize he : r / 4503599627370496 - 1 = e at *
    have hre : r = (e + 1) * 4503599627370496 + r % 4503599627370496 := by omega
    have hd : (i - (-1074)).toNat = e := by omega
    have hmlo : 4503599627370496 ≤ m := by omega
    have hmhi : m < 9007199254740992 := by omega
    have hml : m.log2 = 52 := by
      have a : 52 ≤ m.log2 := by rw [Nat.le_log2 hm]; omega
      have b : m.log2 < 53 := by rw [Nat.log2_lt hm]; omega
      omega
    have hne : m <<< e ≠ 0 := by rw [Nat.shiftLeft_eq]; exact Nat.mul_ne_zero hm (Nat.ne_of_gt (Nat.two_pow_pos e))
    have hlog : (m <<< e).log2 = 52 + e := by
      have a : 52 + e ≤ (m <<< e).log2 := by
        rw [Nat.le_log2 hne, Nat.shiftLeft_eq, Nat.pow_add]
        exact Nat.mul_le_mul_right _ (by omega)
      have b : (m <<< e).log2 < 53 + e := by
        rw [Nat.log2_lt hne, Nat.shiftLeft_eq, Nat.pow_add]
        exact Nat.mul_lt_mul_of_pos_right (by omega) (Nat.two_pow_pos e)
      omega
    have hn : Ieee.double.nearest s (m <<< e) (-1074) = Ieee.double.word s r := by
      unfold Ieee.Format.nearest
      rw [if_neg hne, lp_eq, bn_eq, ir_eq, hlog]
      have hf : Ieee.double.fractionBits = 52 := rfl
      have hlast : max (-1074 + ((52 + e : Nat) : Int) - (Ieee.double.fractionBits : Nat)) (-1074) = -1074 + (e : Int) := by rw [hf]; omega
      simp only [hlast]
      have e1 : ((-1074 : Int) - (-1074 + (e : Int))).toNat = 0 := by omega
      have e2 : (-1074 + (e : Int) - (-1074)).toNat = e := by omega
      simp only [e1, e2, Nat.shiftLeft_zero, cut_exact s m e hm]
      rw [Nat.min_eq_left (by omega)]
      congr 1
      omega
    rw [hd, hn, read_word s r (by omega), if_neg (by omega)]
    rw [h3, h4, he]

/-! ### equal but for the sign of zero -/
def DEq (d d' : Ieee.Datum) : Prop := d = d' ∨ (d.isNaN = true ∧ d'.isNaN = true) ∨ ∃ s t e, d = .number s 0 e ∧ d' = .number t 0 e

/-- Equal as numbers (zeros of either sign), or both not-a-number. -/
def NEq (x y : Nat) : Prop := DEq (Ieee.double.read x) (Ieee.double.read y)

theorem NEq.refl (x : Nat) : NEq x x := .inl rfl
theorem NEq.symm {x y : Nat} (h : NEq x y) : NEq y x := by
  rcases h with h | ⟨a, b⟩ | ⟨s, t, e, a, b⟩
  · exact .inl h.symm
  · exact .inr (.inl ⟨b, a⟩)
  · exact .inr (.inr ⟨t, s, e, b, a⟩)
theorem NEq.trans {x y z : Nat} (h : NEq x y) (k : NEq y z) : NEq x z := by
  unfold NEq DEq at *
  rcases h with h | ⟨a, b⟩ | ⟨s, t, e, a, b⟩
  · rw [h]; exact k
  · rcases k with k | ⟨c, d⟩ | ⟨s', t', e', c, d⟩
    · rw [← k]; exact .inr (.inl ⟨a, b⟩)
    · exact .inr (.inl ⟨a, d⟩)
    · rw [c] at b; cases b
  · rcases k with k | ⟨c, d⟩ | ⟨s', t', e', c, d⟩
    · rw [← k]; exact .inr (.inr ⟨s, t, e, a, b⟩)
    · rw [b] at c; cases c
    · rw [b] at c
      simp only [Ieee.Datum.number.injEq] at c
      obtain ⟨rfl, _, rfl⟩ := c
      exact .inr (.inr ⟨s, t', e, a, d⟩)
theorem Eqv.neq {x y : Nat} (h : Eqv x y) : NEq x y := by
  rcases h with h | ⟨a, b⟩
  · exact .inl h
  · exact .inr (.inl ⟨a, b⟩)

/-- The exact results agree but for the sign of a zero. -/
def OEq (o o' : Option Ieee.Datum) : Prop := o = o' ∨ ∃ s t e, o = some (.number s 0 e) ∧ o' = some (.number t 0 e)

theorem signed0 (s : Bool) (k : Nat) : Ieee.signed s 0 k = 0 := by cases s <;> simp [Ieee.signed]

theorem nan_form {d : Ieee.Datum} (h : d.isNaN = true) : ∃ s t, d = .nan s t := by
  cases d with
  | number s m e => simp [Ieee.Datum.isNaN] at h
  | infinity s => simp [Ieee.Datum.isNaN] at h
  | nan s t => exact ⟨s, t, rfl⟩

theorem sum_nan_l (s : Bool) (t : Nat) (d : Ieee.Datum) : Ieee.Datum.sum (.nan s t) d = none := by cases d <;> rfl
theorem sum_nan_r (s : Bool) (t : Nat) (d : Ieee.Datum) : Ieee.Datum.sum d (.nan s t) = none := by cases d <;> rfl
theorem product_nan_l (s : Bool) (t : Nat) (d : Ieee.Datum) : Ieee.Datum.product (.nan s t) d = none := by cases d <;> rfl
theorem product_nan_r (s : Bool) (t : Nat) (d : Ieee.Datum) : Ieee.Datum.product d (.nan s t) = none := by cases d <;> rfl

theorem sum_left {d d' : Ieee.Datum} (h : DEq d d') (f : Ieee.Datum) : OEq (d.sum f) (d'.sum f) := by
  rcases h with rfl | ⟨a, b⟩ | ⟨s, t, e, rfl, rfl⟩
  · exact .inl rfl
  · obtain ⟨s, t, rfl⟩ := nan_form a
    obtain ⟨s', t', rfl⟩ := nan_form b
    rw [sum_nan_l, sum_nan_l]; exact .inl rfl
  · cases f with
    | nan s' t' => rw [sum_nan_r, sum_nan_r]; exact .inl rfl
    | infinity s' => exact .inl rfl
    | number s' m i =>
      simp only [Ieee.Datum.sum, signed0, Int.zero_add]
      by_cases h0 : Ieee.signed s' m (i - min e i).toNat = 0
      · simp only [h0, if_true]
        exact .inr ⟨_, _, _, rfl, rfl⟩
      · simp only [if_neg h0]
        exact .inl rfl

theorem sum_comm (d f : Ieee.Datum) : d.sum f = f.sum d := by
  cases d <;> cases f <;> simp only [Ieee.Datum.sum]
  · rename_i s m i t n j
    rw [Int.add_comm, Int.min_comm, Bool.and_comm]
  · rename_i s t
    by_cases h : s = t
    · subst h; rfl
    · rw [if_neg h, if_neg (fun e => h e.symm)]

theorem OEq.trans {a b c : Option Ieee.Datum} (h : OEq a b) (k : OEq b c) : OEq a c := by
  rcases h with rfl | ⟨s, t, e, rfl, rfl⟩
  · exact k
  · rcases k with rfl | ⟨s', t', e', h1, rfl⟩
    · exact .inr ⟨s, t, e, rfl, rfl⟩
    · simp only [Option.some.injEq, Ieee.Datum.number.injEq] at h1
      obtain ⟨rfl, _, rfl⟩ := h1
      exact .inr ⟨s, t', e, rfl, rfl⟩

theorem sum_deq {d d' f f' : Ieee.Datum} (h : DEq d d') (k : DEq f f') : OEq (d.sum f) (d'.sum f') := by
  refine (sum_left h f).trans ?_
  rw [sum_comm d' f, sum_comm d' f']
  exact sum_left k d'

theorem product_left {d d' : Ieee.Datum} (h : DEq d d') (f : Ieee.Datum) : OEq (d.product f) (d'.product f) := by
  rcases h with rfl | ⟨a, b⟩ | ⟨s, t, e, rfl, rfl⟩
  · exact .inl rfl
  · obtain ⟨s, t, rfl⟩ := nan_form a
    obtain ⟨s', t', rfl⟩ := nan_form b
    rw [product_nan_l, product_nan_l]; exact .inl rfl
  · cases f with
    | nan s' t' => rw [product_nan_r, product_nan_r]; exact .inl rfl
    | infinity s' => exact .inl rfl
    | number s' m i =>
      simp only [Ieee.Datum.product, Nat.zero_mul]
      exact .inr ⟨_, _, _, rfl, rfl⟩

theorem product_comm (d f : Ieee.Datum) : d.product f = f.product d := by
  cases d <;> cases f <;> simp only [Ieee.Datum.product]
  · rename_i s m i t n j
    rw [Nat.mul_comm, Int.add_comm, Bool.xor_comm]
  · rename_i s t
    rw [Bool.xor_comm]

theorem product_deq {d d' f f' : Ieee.Datum} (h : DEq d d') (k : DEq f f') : OEq (d.product f) (d'.product f') := by
  refine (product_left h f).trans ?_
  rw [product_comm d' f, product_comm d' f']
  exact product_left k d'

theorem DEq.opp {d d' : Ieee.Datum} (h : DEq d d') : DEq d.opposite d'.opposite := by
  rcases h with rfl | ⟨a, b⟩ | ⟨s, t, e, rfl, rfl⟩
  · exact .inl rfl
  · obtain ⟨s, t, rfl⟩ := nan_form a
    obtain ⟨s', t', rfl⟩ := nan_form b
    exact .inr (.inl ⟨rfl, rfl⟩)
  · exact .inr (.inr ⟨_, _, e, rfl, rfl⟩)

theorem neq_of_oeq {o o' : Option Ieee.Datum} (h : OEq o o') : NEq ((o.map Ieee.double.write).getD qnan) ((o'.map Ieee.double.write).getD qnan) := by
  rcases h with rfl | ⟨s, t, e, rfl, rfl⟩
  · exact NEq.refl _
  · refine .inr (.inr ⟨s, t, -1074, ?_, ?_⟩)
    · exact read_write_zero s e
    · exact read_write_zero t e

theorem add_neq {x x' y y' : Nat} (hx : NEq x x') (hy : NEq y y') : NEq (can .add x y) (can .add x' y') := neq_of_oeq (sum_deq hx hy)
theorem mul_neq {x x' y y' : Nat} (hx : NEq x x') (hy : NEq y y') : NEq (can .mul x y) (can .mul x' y') := neq_of_oeq (product_deq hx hy)
theorem sub_neq {x x' y y' : Nat} (hx : NEq x x') (hy : NEq y y') : NEq (can .sub x y) (can .sub x' y') := neq_of_oeq (sum_deq hx hy.opp)

/-- x plus a zero, as it is written. -/
theorem add_zero_neq {x z : Nat} {t : Bool} {e : Int} (hz : Ieee.double.read z = .number t 0 e) : NEq (can .add x z) x := by
  have he := read_zero_place hz
  subst he
  have hc : can .add x z = (((Ieee.double.read x).sum (Ieee.double.read z)).map Ieee.double.write).getD qnan := rfl
  rw [hc, hz]
  cases hx : Ieee.double.read x with
  | nan s f => exact .inr (.inl ⟨isN_qnan, by rw [hx]; rfl⟩)
  | infinity s => exact .inl (by rw [hx]; exact read_write_inf s)
  | number s m i =>
    have hi := read_place hx
    have hmin : min i (-1074) = -1074 := by omega
    simp only [Ieee.Datum.sum, signed0, Int.add_zero, hmin]
    by_cases hm : m = 0
    · subst hm
      have hi0 := read_zero_place hx
      subst hi0
      refine .inr (.inr ⟨s && t, s, -1074, ?_, hx⟩)
      simp only [signed0, if_true]
      exact read_write_zero _ _
    · have hne : m <<< (i - (-1074)).toNat ≠ 0 := by rw [Nat.shiftLeft_eq]; exact Nat.mul_ne_zero hm (Nat.ne_of_gt (Nat.two_pow_pos _))
      have hsg : Ieee.signed s m (i - (-1074)).toNat ≠ 0 := fun h => hm (signed_zero h)
      rw [if_neg hsg]
      have hs : decide (Ieee.signed s m (i - (-1074)).toNat < 0) = s := by
        unfold Ieee.signed
        generalize m <<< (i - (-1074)).toNat = g at hne ⊢
        cases s
        · exact decide_eq_false (by simp only [Bool.false_eq_true, if_false]; omega)
        · exact decide_eq_true (by simp only [if_true]; omega)
      have ha : (Ieee.signed s m (i - (-1074)).toNat).natAbs = m <<< (i - (-1074)).toNat := by
        unfold Ieee.signed
        generalize m <<< (i - (-1074)).toNat = g at hne ⊢
        cases s
        · simp only [Bool.false_eq_true, if_false]; omega
        · simp only [if_true]; omega
      refine .inl ?_
      rw [hx, ha, hs]
      exact nearest_back hx hm

theorem zero_add_neq {x z : Nat} {t : Bool} {e : Int} (hz : Ieee.double.read z = .number t 0 e) : NEq (can .add z x) x := by
  have hc : can .add z x = can .add x z := by
    show (((Ieee.double.read z).sum (Ieee.double.read x)).map Ieee.double.write).getD qnan = (((Ieee.double.read x).sum (Ieee.double.read z)).map Ieee.double.write).getD qnan
    rw [sum_comm]
  rw [hc]
  exact add_zero_neq hz

/-! ### the order looks at no zero's sign -/
theorem order_deq_l {d d' : Ieee.Datum} (h : DEq d d') (f : Ieee.Datum) : d.order f = d'.order f := by
  rcases h with rfl | ⟨a, b⟩ | ⟨s, t, e, rfl, rfl⟩
  · rfl
  · obtain ⟨s, t, rfl⟩ := nan_form a
    obtain ⟨s', t', rfl⟩ := nan_form b
    cases f <;> rfl
  · cases f <;> simp only [Ieee.Datum.order, signed0]

theorem order_deq_r {d d' : Ieee.Datum} (h : DEq d d') (f : Ieee.Datum) : f.order d = f.order d' := by
  rcases h with rfl | ⟨a, b⟩ | ⟨s, t, e, rfl, rfl⟩
  · rfl
  · obtain ⟨s, t, rfl⟩ := nan_form a
    obtain ⟨s', t', rfl⟩ := nan_form b
    cases f <;> rfl
  · cases f <;> simp only [Ieee.Datum.order, signed0]

theorem order_neq {x x' y y' : Nat} (hx : NEq x x') (hy : NEq y y') : FloatKind.f64.format.order x y = FloatKind.f64.format.order x' y' := by
  show (Ieee.double.read x).order (Ieee.double.read y) = (Ieee.double.read x').order (Ieee.double.read y')
  rw [order_deq_l hx, order_deq_r hy]

theorem NEq.nan {x y : Nat} (h : NEq x y) (hx : isN x) : isN y := by
  rcases h with h | ⟨a, b⟩ | ⟨s, t, e, a, b⟩
  · exact isN_of_read h hx
  · exact b
  · unfold isN at hx; rw [a] at hx; cases hx

end Go.Proofs.Qxb6603460a
