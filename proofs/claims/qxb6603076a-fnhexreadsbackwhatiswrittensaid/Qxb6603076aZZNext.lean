import Derived.Test.Qxb6603076aZZ
namespace Go.Proofs.Qxb6603076a
open Go.ChangeShapes Go.WideShapes Go.ChangeAt Go.RowKit
set_option linter.unusedVariables false

theorem zzNext_cases (bd n p : Nat) (a : Option Addr) (zs : Nat → Int) (dd c : Int) (w : World) (hn : n ≤ 2000000)
    (ha : 0 < n → a = some ⟨bd, 0, none⟩) (hne : bd ≠ w.heap.size)
    (hd : ∀ i, i < n → w.cell? ⟨bd, i, none⟩ = some (.int .u8 (zs i))) :
    Calls Try.prog 14 #[.slice a n n, .int .i64 p, .int .i64 dd, .int .u8 c] w fun e w' => 
      ∃ q : Nat, Skips zs n p q ∧ Below w.heap.size w w' ∧ w'.heap.size = w.heap.size + 1 ∧
       ((q < n ∧ zs q = c ∧ e = .returned (.tuple #[.bool true, .int .i64 ((q + 1 : Nat) : Int), .int .i64 dd])) ∨
        (¬ (q < n ∧ zs q = c) ∧ e = .returned (.tuple #[.bool false, .int .i64 (q : Nat), .int .i64 dd]))) := by
  refine (zzNext_any bd n p a zs dd c w hn ha hne hd).mono ?_
  rintro e w' ⟨q, hsk, rfl, hb, hs⟩
  refine ⟨q, hsk, hb, hs, ?_⟩
  by_cases h : q < n ∧ zs q = c
  · have hh : hitB zs n c q = true := by simp [hitB, h]
    exact .inl ⟨h.1, h.2, by simp [nxt, hh]⟩
  · have hh : hitB zs n c q = false := by
      simp [hitB]; intro h1 h2; exact h ⟨h1, h2⟩
    exact .inr ⟨h, by simp [nxt, hh]⟩

theorem bytes13_yes (a : Option Addr) (n c : Nat) (p d b : Int) (w : World) (hn : (n : Int) ≤ 1048576) :
    Calls Try.prog 13 #[.slice a n c, .int .i64 p, .int .i64 d, .int .u8 b] w fun e w' => e = .returned (.bool true) ∧ w' = w := by
  go_enter Try.func13, Try.ntmps13
  go_wp2
  go_ret
  exact ⟨rfl, rfl⟩

theorem bytes13_no (a : Option Addr) (n c : Nat) (p d b : Int) (w : World) (hn : (1048576 : Int) < n) :
    Calls Try.prog 13 #[.slice a n c, .int .i64 p, .int .i64 d, .int .u8 b] w fun e w' => e = .returned (.bool false) ∧ w' = w := by
  go_enter Try.func13, Try.ntmps13
  go_wp2
  go_ret
  exact ⟨rfl, rfl⟩

end Go.Proofs.Qxb6603076a
