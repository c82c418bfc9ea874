import Derived.Test.Qxb6603460aLev
import Derived.Laws.IdiomCopy
namespace Go.Proofs.Qxb6603460a
open Go.ChangeShapes Go.WideShapes Go.ChangeAt Go.RowKit
set_option linter.unusedVariables false

theorem Try.info3 : (Try.prog.info? 3).map (fun i => (i.zero, i.size, i.bytes)) = some (some (.int .i64 0), 1, 8) := by kernel_rfl

theorem rowIs_setCells {b : Nat} {t : TypeId} {n : Nat} (g : Nat → Value) : ∀ (m o : Nat) (w : World) (f : Nat → Value), w.rowIs b t n f →
    (w.setCells b o ((List.range' o m).map g)).rowIs b t n (fun j => if o ≤ j ∧ j < o + m then g j else f j)
  | 0, o, w, f, h => by
    simp only [List.range'_zero, List.map_nil, World.setCells]
    exact h.congr fun i _ => by rw [if_neg (by omega)]
  | m + 1, o, w, f, h => by
    simp only [List.range'_succ, List.map_cons, World.setCells]
    refine (rowIs_setCells g m (o + 1) _ _ (h.set o (g o))).congr fun i _ => ?_
    by_cases h1 : o + 1 ≤ i ∧ i < o + 1 + m
    · rw [if_pos h1, if_pos (by omega)]
    · rw [if_neg h1]
      by_cases h2 : i = o
      · subst h2; rw [if_pos rfl, if_pos (by omega)]
      · rw [if_neg h2, if_neg (by omega)]

theorem Below.setCells {B : Nat} {a : World} {b : Nat} (hb : B ≤ b) : ∀ (vs : List Value) (o : Nat) (w : World), Below B a w → Below B a (w.setCells b o vs)
  | [], _, _, h => h
  | v :: r, o, w, h => Below.setCells hb r (o + 1) _ (h.setCell hb v)

theorem size_setCells {b : Nat} : ∀ (vs : List Value) (o : Nat) (w : World), (w.setCells b o vs).heap.size = w.heap.size
  | [], _, _ => rfl
  | v :: r, o, w => by rw [World.setCells, size_setCells r (o + 1)]; simp [World.setCell]

/-- 'copy' of a whole slice into a row just made. -/
theorem copy_run (dT elem : TypeId) (z : Value) (ty : TypeId) (hu : Try.prog.underlying dT = some (.slice elem)) (hs : (Try.prog.info? elem).map (·.size) = some 1)
    (b off n c : Nat) (g : Nat → Value) (hg : ∀ i, (g i).oneCell' = true) (w : World) (hc : ∀ i, i < n → w.cell? ⟨b, off + i, none⟩ = some (g i)) :
    (Builtin.copy_ #[dT, dT] ty #[.slice (some ⟨w.heap.size, 0, none⟩) n n, .slice (some ⟨b, off, none⟩) n c]).run Try.prog (w.alloc (.cells (madeCells #[z] n) elem)) =
      .ok (.int .i64 n) ((w.alloc (.cells (madeCells #[z] n) elem)).setCells w.heap.size 0 ((List.range' 0 n).map g)) := by
  have hrow := World.rowIs_made w z n elem
  have h := run_copy_cells (P := Try.prog) (w.alloc (.cells (madeCells #[z] n) elem)) dT dT ty elem w.heap.size 0 n n ⟨b, off, none⟩ n c ((List.range' 0 n).map g) hu hs (by simp)
    (by intro j v hj
        simp only [List.getElem?_map, Option.map_eq_some_iff] at hj
        obtain ⟨i, hi, rfl⟩ := hj
        rw [List.getElem?_eq_some_iff] at hi
        obtain ⟨hlt, he⟩ := hi
        simp at hlt he
        subst he
        rw [add_plain]
        exact cell_alloc _ (hc j hlt))
    (by intro j hj
        simp at hj
        rw [Nat.zero_add, hrow.cell hj]; rfl)
    (by intro j hj
        rw [Nat.zero_add]; exact hrow.frozen j)
    (by intro v hv
        simp only [List.mem_map] at hv
        obtain ⟨i, _, rfl⟩ := hv
        exact hg i)
  simpa [goInt] using h

theorem cloneF_nil (n c : Nat) (w : World) :
    Calls Try.prog 11 #[.slice none n c] w fun e w' => e = .returned (.slice none 0 0) ∧ w' = w := by
  have hnil := fun (wx : World) (a : Option Addr) (n c : Nat) => Lib.run_eql_slice_nil (P := Try.prog) wx 23 32 a n c 0 0 Try.underlying23
  go_enter Try.func11, Try.ntmps11
  go_wp2
  go_ret
  exact ⟨rfl, rfl⟩

theorem cloneF_empty (x : Addr) (c : Nat) (w : World) :
    Calls Try.prog 11 #[.slice (some x) 0 c] w fun e w' => e = .returned (.slice (some ⟨w.heap.size, 0, none⟩) 0 0) ∧ w' = w.alloc (.cells (madeCells #[.float .f64 0] 0) 32) := by
  have hnil := fun (wx : World) (a : Option Addr) (n c : Nat) => Lib.run_eql_slice_nil (P := Try.prog) wx 23 32 a n c 0 0 Try.underlying23
  have hmk := makeF 0 (by omega)
  simp only [Int.natCast_zero] at hmk
  have hcp := fun wx ty d c' => run_copy_none (P := Try.prog) wx 23 23 ty 32 d (some x) 0 c' 0 c Try.underlying23 (by kernel_rfl) (by simp)
  go_enter Try.func11, Try.ntmps11
  go_wp2
  go_ret
  exact ⟨rfl, rfl⟩

set_option maxHeartbeats 1000000 in
theorem cloneF_row (b off n c : Nat) (f : Nat → Nat) (w : World) (hn : n ≤ 131072) (hc : ∀ i, i < n → w.cell? ⟨b, off + i, none⟩ = some (.float .f64 (f i))) :
    Calls Try.prog 11 #[.slice (some ⟨b, off, none⟩) n c] w fun e w' => e = .returned (.slice (some ⟨w.heap.size, 0, none⟩) n n) ∧
      w'.rowIs w.heap.size 32 n (fun i => .float .f64 (f i)) ∧ Below w.heap.size w w' ∧ w'.heap.size = w.heap.size + 1 := by
  have hnil := fun (wx : World) (a : Option Addr) (n c : Nat) => Lib.run_eql_slice_nil (P := Try.prog) wx 23 32 a n c 0 0 Try.underlying23
  have hmk := makeF n (by omega)
  have hcp := fun ty => copy_run 23 32 (.float .f64 0) ty Try.underlying23 (by kernel_rfl) b off n c (fun i => .float .f64 (f i)) (fun _ => rfl) w hc
  have HF : Hid (((w.alloc (.cells (madeCells #[.float .f64 0] n) 32)).setCells w.heap.size 0 ((List.range' 0 n).map fun i => .float .f64 (f i))).rowIs w.heap.size 32 n (fun i => .float .f64 (f i)) ∧
      Below w.heap.size w ((w.alloc (.cells (madeCells #[.float .f64 0] n) 32)).setCells w.heap.size 0 ((List.range' 0 n).map fun i => .float .f64 (f i))) ∧
      ((w.alloc (.cells (madeCells #[.float .f64 0] n) 32)).setCells w.heap.size 0 ((List.range' 0 n).map fun i => .float .f64 (f i))).heap.size = w.heap.size + 1) := by
    refine ⟨(rowIs_setCells (fun i => .float .f64 (f i)) n 0 _ _ (World.rowIs_made w (.float .f64 0) n 32)).congr fun i hi => by rw [if_pos (by omega)], Below.setCells (Nat.le_refl _) _ _ _ ((Below.refl _ _).alloc (Nat.le_refl _) _), ?_⟩
    rw [size_setCells]; simp
  generalize hW : (w.alloc (.cells (madeCells #[.float .f64 0] n) 32)).setCells w.heap.size 0 ((List.range' 0 n).map fun i => .float .f64 (f i)) = W at hcp HF
  clear hW hc
  go_enter Try.func11, Try.ntmps11
  go_wp2
  go_ret
  exact ⟨rfl, HF.out⟩

theorem makeI (n : Nat) (hn : n ≤ 1048576) (wx : World) : (Instr.makeSlice 22 (.int .i64 (n : Int)) (.int .i64 (n : Int))).run Try.prog wx = .ok (.slice (some ⟨wx.heap.size, 0, none⟩) n n) (wx.alloc (.cells (madeCells #[.int .i64 0] n) 3)) :=
  run_make_row' (P := Try.prog) 22 3 (.int .i64 0) 8 Try.underlying22 Try.info3 rfl .i64 .i64 n (by omega) (by omega) wx

theorem cloneI_nil (n c : Nat) (w : World) :
    Calls Try.prog 10 #[.slice none n c] w fun e w' => e = .returned (.slice none 0 0) ∧ w' = w := by
  have hnil := fun (wx : World) (a : Option Addr) (n c : Nat) => Lib.run_eql_slice_nil (P := Try.prog) wx 22 3 a n c 0 0 Try.underlying22
  go_enter Try.func10, Try.ntmps10
  go_wp2
  go_ret
  exact ⟨rfl, rfl⟩

theorem cloneI_empty (x : Addr) (c : Nat) (w : World) :
    Calls Try.prog 10 #[.slice (some x) 0 c] w fun e w' => e = .returned (.slice (some ⟨w.heap.size, 0, none⟩) 0 0) ∧ w' = w.alloc (.cells (madeCells #[.int .i64 0] 0) 3) := by
  have hnil := fun (wx : World) (a : Option Addr) (n c : Nat) => Lib.run_eql_slice_nil (P := Try.prog) wx 22 3 a n c 0 0 Try.underlying22
  have hmk := makeI 0 (by omega)
  simp only [Int.natCast_zero] at hmk
  have hcp := fun wx ty d c' => run_copy_none (P := Try.prog) wx 22 22 ty 3 d (some x) 0 c' 0 c Try.underlying22 (by kernel_rfl) (by simp)
  go_enter Try.func10, Try.ntmps10
  go_wp2
  go_ret
  exact ⟨rfl, rfl⟩

set_option maxHeartbeats 1000000 in
theorem cloneI_row (b off n c : Nat) (f : Nat → Int) (w : World) (hn : n ≤ 131072) (hc : ∀ i, i < n → w.cell? ⟨b, off + i, none⟩ = some (.int .i64 (f i))) :
    Calls Try.prog 10 #[.slice (some ⟨b, off, none⟩) n c] w fun e w' => e = .returned (.slice (some ⟨w.heap.size, 0, none⟩) n n) ∧
      w'.rowIs w.heap.size 3 n (fun i => .int .i64 (f i)) ∧ Below w.heap.size w w' ∧ w'.heap.size = w.heap.size + 1 := by
  have hnil := fun (wx : World) (a : Option Addr) (n c : Nat) => Lib.run_eql_slice_nil (P := Try.prog) wx 22 3 a n c 0 0 Try.underlying22
  have hmk := makeI n (by omega)
  have hcp := fun ty => copy_run 22 3 (.int .i64 0) ty Try.underlying22 (by kernel_rfl) b off n c (fun i => .int .i64 (f i)) (fun _ => rfl) w hc
  have HF : Hid (((w.alloc (.cells (madeCells #[.int .i64 0] n) 3)).setCells w.heap.size 0 ((List.range' 0 n).map fun i => .int .i64 (f i))).rowIs w.heap.size 3 n (fun i => .int .i64 (f i)) ∧
      Below w.heap.size w ((w.alloc (.cells (madeCells #[.int .i64 0] n) 3)).setCells w.heap.size 0 ((List.range' 0 n).map fun i => .int .i64 (f i))) ∧
      ((w.alloc (.cells (madeCells #[.int .i64 0] n) 3)).setCells w.heap.size 0 ((List.range' 0 n).map fun i => .int .i64 (f i))).heap.size = w.heap.size + 1) := by
    refine ⟨(rowIs_setCells (fun i => .int .i64 (f i)) n 0 _ _ (World.rowIs_made w (.int .i64 0) n 3)).congr fun i hi => by rw [if_pos (by omega)], Below.setCells (Nat.le_refl _) _ _ _ ((Below.refl _ _).alloc (Nat.le_refl _) _), ?_⟩
    rw [size_setCells]; simp
  generalize hW : (w.alloc (.cells (madeCells #[.int .i64 0] n) 3)).setCells w.heap.size 0 ((List.range' 0 n).map fun i => .int .i64 (f i)) = W at hcp HF
  clear hW hc
  go_enter Try.func10, Try.ntmps10
  go_wp2
  go_ret
  exact ⟨rfl, HF.out⟩

/-- What a clone of a slice of floats is. -/
structure FCl (w w' : World) (a' : Option Addr) (bd n : Nat) (f : Nat → Nat) : Prop where
  at_ : 0 < n → a' = some ⟨bd, 0, none⟩
  row : 0 < n → w'.rowIs bd 32 n (fun i => .float .f64 (f i))
  base : w.heap.size ≤ bd
  bel : Below w.heap.size w w'

/-- A slice of floats that is there. -/
structure FIn (w : World) (a : Option Addr) (n c : Nat) (f : Nat → Nat) : Prop where
  le : n ≤ c
  at_ : a = none ∨ n = 0 ∨ ∃ b o, a = some ⟨b, o, none⟩ ∧ ∀ i, i < n → w.cell? ⟨b, o + i, none⟩ = some (.float .f64 (f i))
  nil : a = none → n = 0

structure IIn (w : World) (a : Option Addr) (n c : Nat) (f : Nat → Int) : Prop where
  le : n ≤ c
  at_ : a = none ∨ n = 0 ∨ ∃ b o, a = some ⟨b, o, none⟩ ∧ ∀ i, i < n → w.cell? ⟨b, o + i, none⟩ = some (.int .i64 (f i))
  nil : a = none → n = 0

theorem FIn.below {w w' : World} {a : Option Addr} {n c : Nat} {f : Nat → Nat} (h : FIn w a n c f) (hb : Below w.heap.size w w') : FIn w' a n c f := by
  refine ⟨h.le, ?_, h.nil⟩
  rcases h.at_ with h1 | h1 | ⟨b, o, h1, h2⟩
  · exact .inl h1
  · exact .inr (.inl h1)
  · exact .inr (.inr ⟨b, o, h1, fun i hi => (hb.cell (cell_lt (h2 i hi))).trans (h2 i hi)⟩)

theorem cloneF_any (a : Option Addr) (n c : Nat) (f : Nat → Nat) (w : World) (h : FIn w a n c f) (hn : n ≤ 131072) :
    Calls Try.prog 11 #[.slice a n c] w fun e w' => ∃ a' bd, e = .returned (.slice a' n n) ∧ FCl w w' a' bd n f := by
  cases a with
  | none =>
    have h0 := h.nil rfl
    subst h0
    refine (cloneF_nil 0 c w).mono ?_
    rintro e w' ⟨rfl, rfl⟩
    exact ⟨none, w'.heap.size, rfl, fun h => by omega, fun h => by omega, Nat.le_refl _, Below.refl _ _⟩
  | some x =>
    by_cases h0 : n = 0
    · subst h0
      refine (cloneF_empty x c w).mono ?_
      rintro e w' ⟨rfl, rfl⟩
      exact ⟨_, w.heap.size, rfl, fun h => by omega, fun h => by omega, Nat.le_refl _, (Below.refl _ _).alloc (Nat.le_refl _) _⟩
    · rcases h.at_ with h1 | h1 | ⟨b, o, h1, h2⟩
      · cases h1
      · exact absurd h1 h0
      · cases h1
        refine (cloneF_row b o n c f w hn h2).mono ?_
        rintro e w' ⟨rfl, hrow, hbel, hsz⟩
        exact ⟨_, w.heap.size, rfl, fun _ => rfl, fun _ => hrow, Nat.le_refl _, hbel⟩

theorem cloneI_any (a : Option Addr) (n c : Nat) (f : Nat → Int) (w : World) (h : IIn w a n c f) (hn : n ≤ 131072) (hn0 : 0 < n) :
    Calls Try.prog 10 #[.slice a n c] w fun e w' => e = .returned (.slice (some ⟨w.heap.size, 0, none⟩) n n) ∧ w'.rowIs w.heap.size 3 n (fun i => .int .i64 (f i)) ∧ Below w.heap.size w w' := by
  rcases h.at_ with h1 | h1 | ⟨b, o, h1, h2⟩
  · exact absurd (h.nil h1) (by omega)
  · omega
  · subst h1
    refine (cloneI_row b o n c f w hn h2).mono ?_
    rintro e w' ⟨rfl, hrow, hbel, hsz⟩
    exact ⟨rfl, hrow, hbel⟩

end Go.Proofs.Qxb6603460a
