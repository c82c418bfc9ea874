import Derived.Test.Qxb6603076aNext
namespace Go.Proofs.Qxb6603076a
open Go.ChangeShapes Go.WideShapes Go.ChangeAt Go.RowKit
set_option linter.unusedVariables false

theorem cell_lt {w : World} {p : Addr} {v : Value} (h : w.cell? p = some v) : p.block < w.heap.size := by
  by_cases hb : p.block < w.heap.size
  · exact hb
  · simp [World.cell?, Array.getElem?_eq_none (by omega : w.heap.size ≤ p.block)] at h

theorem cell_alloc {w : World} {p : Addr} {v : Value} (o : Obj) (h : w.cell? p = some v) : (w.alloc o).cell? p = some v := by
  rw [← h]; exact World.cell?_of_block (w := w) (Below.heap_alloc w o p.block (cell_lt h))

theorem rd_box (w : World) (s p d : Value) : (w.alloc (.cells #[s, p, d] 40)).rowIs w.heap.size 40 3 (rd s p d) := by
  refine World.rowIs_alloc w #[s, p, d] 40 (rd s p d) fun i hi => ?_
  match i, hi with
  | 0, _ => rfl
  | 1, _ => rfl
  | 2, _ => rfl

set_option maxHeartbeats 1000000 in
theorem zzNext_any (bd n p : Nat) (a : Option Addr) (zs : Nat → Int) (dd c : Int) (w : World) (hn : n ≤ 2000000)
    (ha : 0 < n → a = some ⟨bd, 0, none⟩) (hne : bd ≠ w.heap.size)
    (hd : ∀ i, i < n → w.cell? ⟨bd, i, none⟩ = some (.int .u8 (zs i))) :
    Calls Try.prog 14 #[.slice a n n, .int .i64 p, .int .i64 dd, .int .u8 c] w fun e w' => 
      ∃ q : Nat, Skips zs n p q ∧ e = .returned (.tuple #[.bool (hitB zs n c q), .int .i64 (nxt zs n c q : Nat), .int .i64 dd]) ∧ Below w.heap.size w w' ∧ w'.heap.size = w.heap.size + 1 := by
  go_enter Try.func14, Try.ntmps14
  go_wp2_with fail
  refine (next_any w.heap.size bd n p a zs (.int .i64 dd) c _ hn (rd_box w _ _ _) ha hne (fun i hi => cell_alloc _ (hd i hi))).mono ?_
  rintro e w1 ⟨q, hsk, rfl, hrow, honly⟩
  have c1 : w1.cell? ⟨w.heap.size, 1, none⟩ = some (.int .i64 (nxt zs n c q : Nat)) := hrow.cell (i := 1) (by omega)
  have c2 : w1.cell? ⟨w.heap.size, 2, none⟩ = some (.int .i64 dd) := hrow.cell (i := 2) (by omega)
  have hb : Below w.heap.size w w1 := ((Below.refl _ _).alloc (Nat.le_refl _) _).trans (honly.below (Nat.le_refl _))
  have HZ : Hid (w1.heap.size = w.heap.size + 1) := by have := honly.size; simp at this; exact this
  clear honly
  go_wp2
  go_quiet (fail)
  go_wp2
  go_ret3
  exact ⟨q, hsk, rfl, below_drewN hb _, HZ.out⟩

set_option maxHeartbeats 1000000 in
theorem zzSpace_any (bd n p : Nat) (a : Option Addr) (zs : Nat → Int) (dd : Int) (w : World) (hn : n ≤ 2000000)
    (ha : 0 < n → a = some ⟨bd, 0, none⟩) (hne : bd ≠ w.heap.size)
    (hd : ∀ i, i < n → w.cell? ⟨bd, i, none⟩ = some (.int .u8 (zs i))) :
    Calls Try.prog 10 #[.slice a n n, .int .i64 p, .int .i64 dd] w fun e w' => 
      ∃ q : Nat, Skips zs n p q ∧ e = .returned (.tuple #[.int .i64 (q : Nat), .int .i64 dd]) ∧ Below w.heap.size w w' ∧ w'.heap.size = w.heap.size + 1 := by
  go_enter Try.func10, Try.ntmps10
  go_wp2_with fail
  refine (space_any w.heap.size bd n p a zs (.int .i64 dd) _ hn (rd_box w _ _ _) ha hne (fun i hi => cell_alloc _ (hd i hi))).mono ?_
  rintro e w1 ⟨rfl, q, hsk, hrow, honly⟩
  have c1 : w1.cell? ⟨w.heap.size, 1, none⟩ = some (.int .i64 (q : Nat)) := hrow.cell (i := 1) (by omega)
  have c2 : w1.cell? ⟨w.heap.size, 2, none⟩ = some (.int .i64 dd) := hrow.cell (i := 2) (by omega)
  have hb : Below w.heap.size w w1 := ((Below.refl _ _).alloc (Nat.le_refl _) _).trans (honly.below (Nat.le_refl _))
  have HZ : Hid (w1.heap.size = w.heap.size + 1) := by have := honly.size; simp at this; exact this
  clear honly
  go_wp2
  go_quiet (fail)
  go_wp2
  go_ret2
  exact ⟨q, hsk, rfl, below_drewN hb _, HZ.out⟩

/-- WHAT THE WALK IS TOLD OF A SLICE OF INTEGERS THAT CAME IN. -/
def IsRow (k : IntKind) (w : World) (a : Option Addr) (len cap : Nat) (zs : List Int) : Prop :=
  (a = none ∧ len = 0 ∧ cap = 0 ∧ zs = []) ∨
  ∃ x, a = some x ∧ len ≤ cap ∧ cap ≤ maxLen ∧ zs.length = cap ∧ (∀ i, i < zs.length → w.cell? (x.add i) = some (.int k (zs.getD i 0))) ∧ ∀ n ∈ zs, (Lit.int k n).wf = true

theorem clone_any (a0 : Option Addr) (len cap : Nat) (z0 : List Int) (w : World) (hr : IsRow .u8 w a0 len cap z0) (hn : len ≤ 1048576) :
    Calls Try.prog 9 #[.slice a0 len cap] w fun e w' => ∃ a' bd, e = .returned (.slice a' len len) ∧ (0 < len → a' = some ⟨bd, 0, none⟩) ∧ bd ≠ w'.heap.size ∧
      (∀ i, i < len → w'.cell? ⟨bd, i, none⟩ = some (.int .u8 (z0.getD i 0))) ∧ Below w.heap.size w w' := by
  rcases hr with ⟨rfl, rfl, rfl, rfl⟩ | ⟨x, rfl, h1, h2, h3, h4, h5⟩
  · refine (clone_nil 0 0 w).mono ?_
    rintro e w' ⟨rfl, rfl⟩
    exact ⟨none, w'.heap.size + 1, rfl, fun h => by omega, by omega, fun i h => by omega, Below.refl _ _⟩
  · by_cases h0 : len = 0
    · subst h0
      refine (clone_empty x cap w).mono ?_
      rintro e w' ⟨rfl, rfl⟩
      exact ⟨_, w.heap.size + 5, rfl, fun h => by omega, by simp, fun i h => by omega, (Below.refl _ _).alloc (Nat.le_refl _) _⟩
    · obtain ⟨b, off, spot⟩ := x
      have hsp : spot = none := by simpa [Addr.add] using World.cell?_spot (h4 0 (by omega))
      subst hsp
      have hcell : ∀ i, i < len → w.cell? ⟨b, off + i, none⟩ = some (.int .u8 (z0.getD i 0)) := fun i hi => by rw [← add_plain]; exact h4 i (by omega)
      refine (clone_row b off len cap (fun i => z0.getD i 0) w hn (by omega) hcell (cell_lt (hcell 0 (by omega)))).mono ?_
      rintro e w' ⟨rfl, hrow, hbel, hsz⟩
      exact ⟨_, w.heap.size, rfl, fun _ => rfl, by omega, fun i hi => hrow.cell hi, hbel⟩

end Go.Proofs.Qxb6603076a
