import Derived.Test.Qxb6603076aClone
namespace Go.Proofs.Qxb6603076a
open Go.ChangeShapes Go.WideShapes Go.ChangeAt Go.RowKit

/-- The three fields of a jsonReader, by the index. -/
def rd (s p d : Value) : Nat → Value
  | 0 => s
  | 1 => p
  | _ => d

/-- Only block b has turned. -/
structure Only (b : Nat) (w w' : World) : Prop where
  os : w'.os = w.os
  tape : w'.tape = w.tape
  output : w'.output = w.output
  size : w'.heap.size = w.heap.size
  block : ∀ k, k ≠ b → w'.heap[k]? = w.heap[k]?

theorem Only.refl (b : Nat) (w : World) : Only b w w := ⟨rfl, rfl, rfl, rfl, fun _ _ => rfl⟩
theorem Only.trans {b : Nat} {w w' w'' : World} (h : Only b w w') (k : Only b w' w'') : Only b w w'' :=
  ⟨k.os.trans h.os, k.tape.trans h.tape, k.output.trans h.output, k.size.trans h.size, fun i hi => (k.block i hi).trans (h.block i hi)⟩
theorem Only.drewN {b : Nat} {w w' : World} (h : Only b w w') (n : Nat) : Only b w (w'.drewN n) := ⟨h.os, h.tape, h.output, h.size, h.block⟩
theorem Only.setCell {b : Nat} {w w' : World} (h : Only b w w') (o : Nat) (v : Value) : Only b w (w'.setCell ⟨b, o, none⟩ v) :=
  h.trans ⟨rfl, rfl, rfl, by simp [World.setCell], fun k hk => Below.heap_setCell _ _ _ _ hk⟩
theorem Only.cell {b : Nat} {w w' : World} (h : Only b w w') {p : Addr} (hp : p.block ≠ b) : w'.cell? p = w.cell? p := World.cell?_of_block (w := w) (h.block p.block hp)
theorem Only.row {b b' : Nat} {w w' : World} (h : Only b w w') {t : TypeId} {n : Nat} {f : Nat → Value} (hr : w.rowIs b' t n f) (hne : b' ≠ b) : w'.rowIs b' t n f := hr.of_block (h.block _ hne)
theorem Only.below {b : Nat} {w w' : World} (h : Only b w w') {B : Nat} (hB : B ≤ b) : Below B w w' :=
  ⟨h.os, h.tape, h.output, by rw [h.size]; exact Nat.le_refl _, fun k hk => h.block k (by omega)⟩

/-- From p the white space ends at q. -/
structure Skips (zs : Nat → Int) (n p q : Nat) : Prop where
  le : p ≤ q
  inn : p ≤ n → q ≤ n
  out : n ≤ p → q = p
  sp : ∀ i, p ≤ i → i < q → isSp (zs i) = true
  stop : q < n → isSp (zs q) = false

theorem rowIs_drewN {w : World} {b : Nat} {t : TypeId} {n : Nat} {f : Nat → Value} (h : w.rowIs b t n f) (m : Nat) : (w.drewN m).rowIs b t n f := h

theorem rd_set {w : World} {b : Nat} {s d : Value} {p : Value} (h : w.rowIs b 40 3 (rd s p d)) (m : Nat) {k : Nat} :
    ((w.drewN m).setCell ⟨b, 1, none⟩ (.int .i64 ((k : Int) + 1))).rowIs b 40 3 (rd s (.int .i64 ((k + 1 : Nat) : Int)) d) := by
  refine ((rowIs_drewN h m).set 1 _).congr fun i hi => ?_
  match i, hi with
  | 0, _ => rfl
  | 1, _ => simp [rd]
  | 2, _ => rfl

theorem rd_set_cell {w : World} {b : Nat} {s d : Value} {p : Value} (h : w.rowIs b 40 3 (rd s p d)) (m : Nat) {k : Nat} :
    ((w.drewN m).setCell ⟨b, 1, none⟩ (.int .i64 ((k : Int) + 1))).cell? ⟨b, 1, none⟩ = some (.int .i64 ((k + 1 : Nat) : Int)) :=
  (rd_set h m).cell (i := 1) (by omega)

set_option maxHeartbeats 1000000 in
theorem space_any (br bd n p : Nat) (a : Option Addr) (zs : Nat → Int) (d : Value) (w : World) (hn : n ≤ 2000000)
    (hr : w.rowIs br 40 3 (rd (.slice a n n) (.int .i64 p) d)) (ha : 0 < n → a = some ⟨bd, 0, none⟩) (hne : bd ≠ br)
    (hd : ∀ i, i < n → w.cell? ⟨bd, i, none⟩ = some (.int .u8 (zs i))) :
    Calls Try.prog 19 #[.pointer (some ⟨br, 0, none⟩)] w fun e w' => e = .returned (.tuple #[]) ∧
      ∃ q : Nat, Skips zs n p q ∧ w'.rowIs br 40 3 (rd (.slice a n n) (.int .i64 q) d) ∧ Only br w w' := by
  go_enter Try.func19, Try.ntmps19
  go_wp2
  go_loopw [] (fun wr => ∃ k : Nat, p ≤ k ∧ (p ≤ n → k ≤ n) ∧ (n ≤ p → k = p) ∧ (∀ i, p ≤ i → i < k → isSp (zs i) = true) ∧ wr.rowIs br 40 3 (rd (.slice a n n) (.int .i64 k) d) ∧ Only br w wr)
    (fun wr => n - (intOf ((wr.cell? ⟨br, 1, none⟩).getD undef)).toNat)
  case atStart => exact ⟨p, Nat.le_refl _, fun h => h, fun _ => rfl, fun i h1 h2 => by omega, hr, Only.refl _ _⟩
  case round =>
    obtain ⟨k, hk1, hk2, hk3, hk4, hrow, honly⟩ := hrel
    have c0 : wr.cell? ⟨br, 0, none⟩ = some (.slice a n n) := hrow.cell (i := 0) (by omega)
    have c1 : wr.cell? ⟨br, 1, none⟩ = some (.int .i64 k) := hrow.cell (i := 1) (by omega)
    have f1 : wr.frozen? ⟨br, 1, none⟩ = false := hrow.frozen 1
    by_cases hlt : k < n
    · have ha' := ha (by omega)
      subst ha'
      have cd : wr.cell? ⟨bd, k, none⟩ = some (.int .u8 (zs k)) := (honly.cell (by exact hne)).trans (hd k hlt)
      go_wp2
      go_quiet (fail)
      go_wp2
      go_quiet (fail)
      go_wp2
      all_goals first
        | (refine bodyPost_ret (results_none rfl _ _ _) rfl ?_
           refine ⟨rfl, k, ⟨hk1, hk2, hk3, hk4, fun _ => ?_⟩, rowIs_drewN hrow _, honly.drewN _⟩
           simp [isSp, *])
        | (go_roundw
           case rel =>
             refine ⟨k + 1, by omega, by omega, by omega, fun i h1 h2 => ?_, rd_set hrow _, (honly.drewN _).setCell 1 _⟩
             by_cases e : i = k
             · subst e; simp [isSp, *]
             · exact hk4 i h1 (by omega)
           case measure => rw [rd_set_cell hrow _, c1]; simp [intOf]; omega)
    · have hd : decide ((k : Int) < (n : Int)) = false := decide_eq_false (by omega)
      go_wp2
      go_quiet (fail)
      go_wp2
      go_end0
      refine ⟨rfl, k, ⟨hk1, hk2, hk3, hk4, fun h => absurd h hlt⟩, rowIs_drewN hrow _, honly.drewN _⟩

end Go.Proofs.Qxb6603076a
