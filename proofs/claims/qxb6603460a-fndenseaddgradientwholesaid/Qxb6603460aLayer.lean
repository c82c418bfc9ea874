import Derived.Test.Qxb6603460aLeaf
namespace Go.Proofs.Qxb6603460a
open Go.ChangeShapes Go.WideShapes Go.ChangeAt Go.RowKit
set_option linter.unusedVariables false

theorem cell_lt {w : World} {p : Addr} {v : Value} (h : w.cell? p = some v) : p.block < w.heap.size := by
  by_cases hb : p.block < w.heap.size
  · exact hb
  · simp [World.cell?, Array.getElem?_eq_none (by omega : w.heap.size ≤ p.block)] at h

theorem cell_alloc {w : World} {p : Addr} {v : Value} (o : Obj) (h : w.cell? p = some v) : (w.alloc o).cell? p = some v := by
  rw [← h]; exact World.cell?_of_block (w := w) (Below.heap_alloc w o p.block (cell_lt h))

/-- Where layer l begins. -/
def off (wd : Nat → Nat) : Nat → Nat
  | 0 => 0
  | 1 => 0
  | l + 2 => off wd (l + 1) + wd (l + 1) * (wd l + 1)

theorem off_succ (wd : Nat → Nat) (l : Nat) : off wd (l + 2) = off wd (l + 1) + wd (l + 1) * (wd l + 1) := rfl

theorem off_mono (wd : Nat → Nat) (l m : Nat) (h : l ≤ m) : off wd l ≤ off wd m := by
  induction m with
  | zero => have : l = 0 := by omega
            subst this; exact Nat.le_refl _
  | succ m ih =>
    by_cases e : l = m + 1
    · subst e; exact Nat.le_refl _
    · have h1 := ih (by omega)
      match m with
      | 0 => exact h1
      | m + 1 => rw [off_succ]; omega

/-- A cut of a slice of floats. -/
theorem slice_run (a : Option Addr) (n cap : Nat) (lo hi len : Nat) (LO HI : Int) (h1 : LO = (lo : Int)) (h2 : HI = (hi : Int)) (hle : hi = lo + len) (hc : hi ≤ cap) :
    ∃ a' c', (∀ wx, (Instr.slice 23 (.slice a n cap) (some (.int .i64 LO)) (some (.int .i64 HI)) none).run Try.prog wx = .ok (.slice a' len c') wx) ∧
      (∀ b o, 0 < len → a = some ⟨b, o, none⟩ → a' = some ⟨b, o + lo, none⟩) ∧ len ≤ c' ∧ c' = cap - lo := by
  subst h1; subst h2
  refine ⟨if cap = lo then a else a.map (·.add (lo * 1)), cap - lo, fun wx => ?_, fun b o h e => ?_, by omega, rfl⟩
  · have hz : (sizeOf (Try.prog.elem 23)).run Try.prog wx = .ok 1 wx := by kernel_rfl
    rw [run_slice_lh wx 23 a n cap (by kernel_rfl) .i64 .i64 lo hi (by omega) (by omega) (by omega), hz]
    simp [Result.andThen, sliced]
    omega
  · subst e
    rw [if_neg (by omega)]
    simp [Addr.add]

theorem mul_cast (o i : Nat) (m : Nat) (h : o * (i + 1) ≤ m) : 0 ≤ (o : Int) * ((i : Int) + 1) ∧ (o : Int) * ((i : Int) + 1) ≤ m := by
  have e : (o : Int) * ((i : Int) + 1) = ((o * (i + 1) : Nat) : Int) := by simp
  rw [e]
  omega

theorem mul_cast' (o i : Nat) : (o : Int) * (i : Int) = ((o * i : Nat) : Int) := by simp

set_option maxHeartbeats 1000000 in
theorem layer_any (bw ow L capw : Nat) (wd : Nat → Nat) (ap : Option Addr) (bp op np cp : Nat) (l : Nat) (w : World)
    (hw : ∀ j, j < L → w.cell? ⟨bw, ow + j, none⟩ = some (.int .i64 (wd j))) (hl : l + 1 < L) (hL : L ≤ 4096) (hwd : ∀ j, j < L → wd j ≤ 1048576)
    (hoff : off wd (l + 2) ≤ np) (hcap : np ≤ cp) (hnp : np ≤ 131072) (hap : 0 < np → ap = some ⟨bp, op, none⟩) :
    Calls Try.prog 26 #[.agg #[.slice (some ⟨bw, ow, none⟩) L capw], .slice ap np cp, .int .i64 ((l : Int) + 1)] w fun e w' => ∃ a1 c1 a2 c2,
      e = .returned (.tuple #[.slice a1 (wd (l + 1) * wd l) c1, .slice a2 (wd (l + 1)) c2]) ∧ (0 < wd (l + 1) * wd l → a1 = some ⟨bp, op + off wd (l + 1), none⟩) ∧ wd (l + 1) * wd l ≤ c1 ∧
      (0 < wd (l + 1) → a2 = some ⟨bp, op + off wd (l + 1) + wd (l + 1) * wd l, none⟩) ∧ wd (l + 1) ≤ c2 ∧ Below w.heap.size w w' := by
  go_enter Try.func26, Try.ntmps26
  go_wp2
  go_loopw [8, 9] (fun o i wr => ∃ k : Nat, k ≤ l ∧ i = .int .i64 ((k : Int) + 1) ∧ o = .int .i64 (off wd (k + 1) : Nat) ∧ Below w.heap.size w wr ∧ wr.cell? ⟨w.heap.size, 0, none⟩ = some (.slice (some ⟨bw, ow, none⟩) L capw)) (fun _ i _ => l + 1 - (intOf i).toNat)
  case atStart => exact ⟨0, Nat.zero_le _, rfl, rfl, (Below.refl _ _).alloc (Nat.le_refl _) _, by simp⟩
  case round =>
    obtain ⟨k, hk, rfl, rfl, hbel, hcd⟩ := hrel
    by_cases hlt : k < l
    · have c0 := (hbel.cell (cell_lt (hw k (by omega)))).trans (hw k (by omega))
      have c1 := (hbel.cell (cell_lt (hw (k + 1) (by omega)))).trans (hw (k + 1) (by omega))
      have ho1 : off wd (k + 2) ≤ 131072 := Nat.le_trans (off_mono wd (k + 2) (l + 2) (by omega)) (by omega)
      have HO : Hid (off wd (k + 2) = off wd (k + 1) + wd (k + 1) * (wd k + 1)) := off_succ wd k
      have hm := mul_cast (wd (k + 1)) (wd k) 131072 (by have := HO.out; omega)
      have hw0 := hwd k (by omega)
      have hob : (off wd (k + 1) : Nat) ≤ 131072 := by have := HO.out; omega
      obtain ⟨hm0, hm1⟩ := hm
      have hi0 : (k : Int) < (L : Int) := by omega
      have hi2 : (k : Int) ≤ 4096 := by omega
      have hi1 : (k : Int) + 1 < (L : Int) := by omega
      go_wp2
      go_quiet ((go_at_call 27; go_must (exact Calls.quiet_of_same (layerSize_any _ _ _ (by omega) (by omega) hm0 (by omega)))))
      go_wp2
      go_roundw
      case rel => exact ⟨k + 1, by omega, by go_num, by rw [HO.out]; simp, below_drewN hbel _, hcd⟩
      case measure => simp [intOf]; omega
    · have hkl : k = l := by omega
      subst hkl
      have c0 := (hbel.cell (cell_lt (hw k (by omega)))).trans (hw k (by omega))
      have c1 := (hbel.cell (cell_lt (hw (k + 1) (by omega)))).trans (hw (k + 1) (by omega))
      have HO : Hid (off wd (k + 2) = off wd (k + 1) + wd (k + 1) * (wd k + 1)) := off_succ wd k
      have hm := mul_cast (wd (k + 1)) (wd k) 131072 (by have := HO.out; omega)
      have hw0 := hwd k (by omega)
      have hob : (off wd (k + 1) : Nat) ≤ 131072 := by have := HO.out; omega
      obtain ⟨hm0, hm1⟩ := hm
      have hi0 : (k : Int) < (L : Int) := by omega
      have hi2 : (k : Int) ≤ 4096 := by omega
      have hi1 : (k : Int) + 1 < (L : Int) := by omega
      have hmul : wd (k + 1) * (wd k + 1) = wd (k + 1) * wd k + wd (k + 1) := Nat.mul_succ _ _
      have hle : off wd (k + 1) + wd (k + 1) * (wd k + 1) ≤ np := by have := HO.out; omega
      have hq0 : 0 ≤ (wd (k + 1) : Int) * (wd k : Int) := by rw [mul_cast']; omega
      have hq1 : (wd (k + 1) : Int) * (wd k : Int) ≤ 131072 := by rw [mul_cast']; omega
      obtain ⟨a1, c1', hs1, ha1, hc1, -⟩ := slice_run ap np cp (off wd (k + 1)) (off wd (k + 1) + wd (k + 1) * wd k) (wd (k + 1) * wd k) (off wd (k + 1) : Nat) ((off wd (k + 1) : Nat) + (wd (k + 1) : Int) * (wd k : Int)) rfl (by rw [mul_cast']; omega) rfl (by omega)
      obtain ⟨a2, c2', hs2, ha2, hc2, -⟩ := slice_run ap np cp (off wd (k + 1) + wd (k + 1) * wd k) (off wd (k + 1) + wd (k + 1) * (wd k + 1)) (wd (k + 1)) ((off wd (k + 1) : Nat) + (wd (k + 1) : Int) * (wd k : Int)) ((off wd (k + 1) : Nat) + (wd (k + 1) : Int) * ((wd k : Int) + 1)) (by rw [mul_cast']; omega) (by simp) (by omega) (by omega)
      have R1 : Hid (0 < wd (k + 1) * wd k → a1 = some ⟨bp, op + off wd (k + 1), none⟩) := fun h => ha1 bp op (by omega) (hap (by omega))
      have R2 : Hid (0 < wd (k + 1) → a2 = some ⟨bp, op + off wd (k + 1) + wd (k + 1) * wd k, none⟩) := fun h => by
        rw [ha2 bp op (by omega) (hap (by omega)), Nat.add_assoc]
      clear hmul ha1 ha2 hap
      go_wp2
      go_quiet (fail)
      go_wp2
      go_quiet (fail)
      go_wp2
      go_ret2
      exact ⟨a1, c1', a2, c2', rfl, R1.out, hc1, R2.out, hc2, below_drewN (below_drewN hbel _) _⟩

end Go.Proofs.Qxb6603460a
