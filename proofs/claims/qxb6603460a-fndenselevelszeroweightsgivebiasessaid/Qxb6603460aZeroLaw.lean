import Derived.Test.Qxb6603460aOneLaw
import Derived.Test.Qxb6603460aEqF
namespace Go.Proofs.Qxb6603460a
open Go.ChangeShapes Go.WideShapes Go.ChangeAt Go.RowKit
set_option linter.unusedVariables false

theorem fin_zero : isFin 0 := ⟨_, _, _, read0⟩

theorem mul_zero_fin {x : Nat} (h : isFin x) : ∃ t, Ieee.double.read (can .mul 0 x) = .number t 0 (-1074) := by
  obtain ⟨s, m, e, hr⟩ := h
  have hc : can .mul 0 x = (((Ieee.double.read 0).product (Ieee.double.read x)).map Ieee.double.write).getD qnan := rfl
  rw [hc, read0, hr]
  simp only [Ieee.Datum.product, Nat.zero_mul]
  exact ⟨_, read_write_zero _ _⟩

theorem dot_zero {P A : Nat → Nat} {o s : Nat} : ∀ n, (∀ j, j < n → P (o + j) = 0) → (∀ j, j < n → isFin (A j)) → NEq (dot P o A s n) s
  | 0, _, _ => NEq.refl _
  | n + 1, h1, h2 => by
    simp only [dot]
    rw [h1 n (by omega)]
    obtain ⟨t, ht⟩ := mul_zero_fin (h2 n (by omega))
    exact (add_zero_neq ht).trans (dot_zero n (fun j hj => h1 j (by omega)) (fun j hj => h2 j (by omega)))

theorem relu_neq {x y : Nat} (h : NEq x y) : NEq (relu x) (relu y) := by
  unfold relu
  rw [← order_neq h (NEq.refl 0)]
  cases ho : FloatKind.f64.format.order x 0 with
  | none => exact NEq.refl _
  | some c => cases c <;> first | exact NEq.refl _ | exact h

theorem fin_neq {x y : Nat} (h : NEq x y) (hy : isFin y) : isFin x := by
  obtain ⟨s, m, e, hr⟩ := hy
  rcases h with h | ⟨a, b⟩ | ⟨s', t', e', a, b⟩
  · exact ⟨s, m, e, h.trans hr⟩
  · rw [hr] at b; cases b
  · exact ⟨_, _, _, a⟩

theorem order_fin {x : Nat} (h : isFin x) : FloatKind.f64.format.order x 0 ≠ none := by
  obtain ⟨s, m, e, hr⟩ := h
  show (Ieee.double.read x).order (Ieee.double.read 0) ≠ none
  rw [hr, read0]
  simp [Ieee.Datum.order]

theorem fin_relu {x : Nat} (h : isFin x) : isFin (relu x) := by
  unfold relu
  cases ho : FloatKind.f64.format.order x 0 with
  | none => exact absurd ho (order_fin h)
  | some c => cases c <;> first | exact fin_zero | exact h

theorem fin_act {N l x : Nat} (h : isFin x) : isFin (act N l x) := by
  unfold act; split
  · exact fin_relu h
  · exact h

theorem act_neq {N l x y : Nat} (h : NEq x y) : NEq (act N l x) (act N l y) := by
  unfold act; split
  · exact relu_neq h
  · exact h

/-- With every weight zero a level is its biases. -/
theorem lev_zero {wd : Nat → Nat} {N : Nat} {f X : Nat → Nat} (hw : ∀ l, l < N → ∀ t, t < wd (l + 1) * wd l → f (off wd (l + 1) + t) = 0)
    (hb : ∀ l, l < N → ∀ i, i < wd (l + 1) → isFin (f (off wd (l + 1) + wd (l + 1) * wd l + i))) (hx : ∀ i, i < wd 0 → isFin (X i)) :
    ∀ l, l ≤ N → ∀ i, i < wd l → isFin (lev wd N f X l i)
  | 0, _, i, hi => hx i hi
  | l + 1, h, i, hi => by
    have hd : NEq (pre wd f (lev wd N f X l) l i) (f (off wd (l + 1) + wd (l + 1) * wd l + i)) := by
      unfold pre
      refine dot_zero _ (fun j hj => ?_) (fun j hj => lev_zero hw hb hx l (by omega) j hj)
      rw [Nat.add_assoc]
      exact hw l (by omega) _ (row_lt hi hj)
    exact fin_act (fin_neq hd (hb l (by omega) i hi))

theorem lev_bias {wd : Nat → Nat} {N : Nat} {f X : Nat → Nat} (hw : ∀ l, l < N → ∀ t, t < wd (l + 1) * wd l → f (off wd (l + 1) + t) = 0)
    (hb : ∀ l, l < N → ∀ i, i < wd (l + 1) → isFin (f (off wd (l + 1) + wd (l + 1) * wd l + i))) (hx : ∀ i, i < wd 0 → isFin (X i))
    (l : Nat) (h : l < N) (i : Nat) (hi : i < wd (l + 1)) : NEq (lev wd N f X (l + 1) i) (act N (l + 1) (f (off wd (l + 1) + wd (l + 1) * wd l + i))) := by
  refine act_neq ?_
  unfold pre
  refine dot_zero _ (fun j hj => ?_) (fun j hj => lev_zero hw hb hx l (by omega) j hj)
  rw [Nat.add_assoc]
  exact hw l h _ (row_lt hi hj)

theorem bytes17_yes (a : Option Addr) (n c : Nat) (a' : Option Addr) (n' c' : Nat) (a'' : Option Addr) (n'' c'' : Nat) (w : World) (hn : (n : Int) + (n' : Int) + (n'' : Int) ≤ 1048576) :
    Calls Try.prog 17 #[.slice a n c, .slice a' n' c', .slice a'' n'' c''] w fun e w' => e = .returned (.bool true) ∧ w' = w := by
  have h1 : (n : Int) ≤ 1048576 := by omega
  have h2 : (n' : Int) ≤ 1048576 := by omega
  have h3 : (n'' : Int) ≤ 1048576 := by omega
  have h4 : (n : Int) + (n' : Int) ≤ 1048576 := by omega
  go_enter Try.func17, Try.ntmps17
  go_wp2
  go_ret
  exact ⟨rfl, rfl⟩

theorem bytes17_no (a : Option Addr) (n c : Nat) (a' : Option Addr) (n' c' : Nat) (a'' : Option Addr) (n'' c'' : Nat) (w : World) (hn : 1048576 < (n : Int) + (n' : Int) + (n'' : Int)) :
    Calls Try.prog 17 #[.slice a n c, .slice a' n' c', .slice a'' n'' c''] w fun e w' => e = .returned (.bool false) ∧ w' = w := by
  by_cases h1 : (n : Int) ≤ 1048576
  · by_cases h2 : (n' : Int) ≤ 1048576
    · by_cases h4 : (n : Int) + (n' : Int) ≤ 1048576
      · by_cases h3 : (n'' : Int) ≤ 1048576
        all_goals
          go_enter Try.func17, Try.ntmps17
          go_wp2
          go_ret
          exact ⟨rfl, rfl⟩
      · go_enter Try.func17, Try.ntmps17
        go_wp2
        go_ret
        exact ⟨rfl, rfl⟩
    · go_enter Try.func17, Try.ntmps17
      go_wp2
      go_ret
      exact ⟨rfl, rfl⟩
  · go_enter Try.func17, Try.ntmps17
    go_wp2
    go_ret
    exact ⟨rfl, rfl⟩

end Go.Proofs.Qxb6603460a
