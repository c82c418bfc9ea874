import Derived.Test.Qxb6603076aSpace
namespace Go.Proofs.Qxb6603076a
open Go.ChangeShapes Go.WideShapes Go.ChangeAt Go.RowKit
set_option linter.unusedVariables false

def hitB (zs : Nat → Int) (n : Nat) (c : Int) (q : Nat) : Bool := decide (q < n) && (zs q == c)
def nxt (zs : Nat → Int) (n : Nat) (c : Int) (q : Nat) : Nat := if hitB zs n c q then q + 1 else q

set_option maxHeartbeats 1000000 in
theorem next_any (br bd n p : Nat) (a : Option Addr) (zs : Nat → Int) (d : Value) (c : Int) (w : World) (hn : n ≤ 2000000)
    (hr : w.rowIs br 40 3 (rd (.slice a n n) (.int .i64 p) d)) (ha : 0 < n → a = some ⟨bd, 0, none⟩) (hne : bd ≠ br)
    (hd : ∀ i, i < n → w.cell? ⟨bd, i, none⟩ = some (.int .u8 (zs i))) :
    Calls Try.prog 20 #[.pointer (some ⟨br, 0, none⟩), .int .u8 c] w fun e w' => 
      ∃ q : Nat, Skips zs n p q ∧ e = .returned (.bool (hitB zs n c q)) ∧ w'.rowIs br 40 3 (rd (.slice a n n) (.int .i64 (nxt zs n c q : Nat)) d) ∧ Only br w w' := by
  go_enter Try.func20, Try.ntmps20
  go_wp2_with fail
  refine (space_any br bd n p a zs d _ hn hr ha hne hd).mono ?_
  rintro e w1 ⟨rfl, q, hsk, hrow, honly⟩
  have c0 : w1.cell? ⟨br, 0, none⟩ = some (.slice a n n) := hrow.cell (i := 0) (by omega)
  have c1 : w1.cell? ⟨br, 1, none⟩ = some (.int .i64 q) := hrow.cell (i := 1) (by omega)
  have f1 : w1.frozen? ⟨br, 1, none⟩ = false := hrow.frozen 1
  by_cases hlt : q < n
  · have ha' := ha (by omega)
    subst ha'
    have cd : w1.cell? ⟨bd, q, none⟩ = some (.int .u8 (zs q)) := (honly.cell (by exact hne)).trans (hd q hlt)
    by_cases hz : zs q = c
    · have hz' : (zs q == c) = true := by simp [hz]
      have hh : hitB zs n c q = true := by simp [hitB, hlt, hz]
      have hx : nxt zs n c q = q + 1 := by simp [nxt, hh]
      have HH : Hid (hitB zs n c q = true) := hh
      have HX : Hid (nxt zs n c q = q + 1) := hx
      clear hh hx hz
      go_wp2
      go_quiet (fail)
      go_wp2
      go_ret
      refine ⟨q, hsk, by rw [HH.out]; rfl, ?_, (honly.drewN _).setCell 1 _⟩
      rw [HX.out]
      exact rd_set hrow _
    · have hz' : (zs q == c) = false := by simp [hz]
      have hh : hitB zs n c q = false := by simp [hitB, hlt, hz]
      have hx : nxt zs n c q = q := by simp [nxt, hh]
      have HH : Hid (hitB zs n c q = false) := hh
      have HX : Hid (nxt zs n c q = q) := hx
      clear hh hx hz
      go_wp2
      go_quiet (fail)
      go_wp2
      go_ret
      refine ⟨q, hsk, by rw [HH.out]; rfl, ?_, honly.drewN _⟩
      rw [HX.out]
      exact rowIs_drewN hrow _
  · have hdd : decide ((q : Int) < (n : Int)) = false := decide_eq_false (by omega)
    have hh : hitB zs n c q = false := by simp [hitB, hlt]
    have hx : nxt zs n c q = q := by simp [nxt, hh]
    have HH : Hid (hitB zs n c q = false) := hh
    have HX : Hid (nxt zs n c q = q) := hx
    clear hh hx
    go_wp2
    go_quiet (fail)
    go_wp2
    go_ret
    refine ⟨q, hsk, by rw [HH.out]; rfl, ?_, honly.drewN _⟩
    rw [HX.out]
    exact rowIs_drewN hrow _

end Go.Proofs.Qxb6603076a
