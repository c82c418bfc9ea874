import Derived.Test.Qxb6603460aTotal
namespace Go.Proofs.Qxb6603460a
open Go.ChangeShapes Go.WideShapes Go.ChangeAt Go.RowKit
set_option linter.unusedVariables false

theorem makeI1 (N : Nat) (hn : N ≤ 4096) (wx : World) : (Instr.makeSlice 22 (.int .i64 ((N : Int) + 1 + 1)) (.int .i64 ((N : Int) + 1 + 1))).run Try.prog wx = .ok (.slice (some ⟨wx.heap.size, 0, none⟩) (N + 2) (N + 2)) (wx.alloc (.cells (madeCells #[.int .i64 0] (N + 2)) 3)) := makeI (N + 2) (by omega) wx

set_option maxHeartbeats 1000000 in
theorem offs_any (bw ow N capw : Nat) (wd : Nat → Nat) (w : World)
    (hw : ∀ j, j < N + 1 → w.cell? ⟨bw, ow + j, none⟩ = some (.int .i64 (wd j))) (hL : N + 1 ≤ 4096) (hwd : ∀ j, j < N + 1 → wd j ≤ 1048576) (hoff : off wd (N + 1) ≤ 131072) :
    Calls Try.prog 13 #[.slice (some ⟨bw, ow, none⟩) (N + 1) capw] w fun e w' => e = .returned (.slice (some ⟨w.heap.size, 0, none⟩) (N + 2) (N + 2)) ∧
      w'.rowIs w.heap.size 3 (N + 2) (fun l => .int .i64 (off wd l : Nat)) ∧ Below w.heap.size w w' := by
  have hmk := makeI1 N (by omega)
  go_enter Try.func13, Try.ntmps13
  go_wp2
  go_loopw [4, 5] (fun o i wr => ∃ k : Nat, k ≤ N ∧ i = .int .i64 ((k : Int) + 1) ∧ o = .int .i64 (off wd (k + 1) : Nat) ∧ wr.rowIs w.heap.size 3 (N + 2) (fun j => if j < k + 1 then .int .i64 (off wd j : Nat) else .int .i64 0) ∧ Below w.heap.size w wr) (fun _ i _ => N + 1 - (intOf i).toNat)
  case atStart =>
    refine ⟨0, Nat.zero_le _, rfl, rfl, ?_, (Below.refl _ _).alloc (Nat.le_refl _) _⟩
    refine (World.rowIs_made w (.int .i64 0) (N + 2) 3).congr fun i hi => ?_
    by_cases h : i < 0 + 1
    · have : i = 0 := by omega
      subst this; rfl
    · rw [if_neg h]
  case round =>
    obtain ⟨k, hk, rfl, rfl, hrow, hbel⟩ := hrel
    have hkf := hrow.frozen (k + 1)
    by_cases hlt : k < N
    · have hkc : wr.cell? ⟨w.heap.size, k + 1, none⟩ = some (.int .i64 0) := by have h := hrow.cell (i := k + 1) (by omega); simpa using h
      have HO : Hid (off wd (k + 2) = off wd (k + 1) + wd (k + 1) * (wd k + 1)) := off_succ wd k
      have ho2 : off wd (k + 2) ≤ 131072 := Nat.le_trans (off_mono wd (k + 2) (N + 1) (by omega)) hoff
      have hm := mul_cast (wd (k + 1)) (wd k) 131072 (by have := HO.out; omega)
      obtain ⟨hm0, hm1⟩ := hm
      have hob : (off wd (k + 1) : Nat) ≤ 131072 := by have := HO.out; omega
      have hw0 := hwd k (by omega)
      have hi0 : (k : Int) < (N : Int) + 1 := by omega
      have hi1 : (k : Int) + 1 < (N : Int) + 1 := by omega
      have hi2 : (k : Int) + 1 < (N : Int) + 1 + 1 := by omega
      have HR : Hid (∀ v : Value, v = .int .i64 (off wd (k + 1) : Nat) → (wr.setCell ⟨w.heap.size, k + 1, none⟩ v).rowIs w.heap.size 3 (N + 2) (fun j => if j < k + 2 then .int .i64 (off wd j : Nat) else .int .i64 0)) := by
        rintro v rfl
        refine (hrow.set (k + 1) _).congr fun i hi => ?_
        by_cases e : i = k + 1
        · subst e; rw [if_pos rfl, if_pos (by omega)]
        · rw [if_neg e]
          by_cases h2 : i < k + 1
          · rw [if_pos h2, if_pos (by omega)]
          · rw [if_neg h2, if_neg (by omega)]
      have c0 := (hbel.cell (cell_lt (hw k (by omega)))).trans (hw k (by omega))
      have c1 := (hbel.cell (cell_lt (hw (k + 1) (by omega)))).trans (hw (k + 1) (by omega))
      have l0 := cell_lt (hw k (by omega))
      have n0 : bw ≠ w.heap.size := by simp at l0; omega
      have c0' := (World.cell?_of_block (Below.heap_setCell wr ⟨w.heap.size, k + 1, none⟩ (.int .i64 (off wd (k + 1) : Nat)) bw (by exact n0)) : (wr.setCell ⟨w.heap.size, k + 1, none⟩ (.int .i64 (off wd (k + 1) : Nat))).cell? ⟨bw, ow + k, none⟩ = wr.cell? ⟨bw, ow + k, none⟩).trans c0
      have c1' := (World.cell?_of_block (Below.heap_setCell wr ⟨w.heap.size, k + 1, none⟩ (.int .i64 (off wd (k + 1) : Nat)) bw (by exact n0)) : (wr.setCell ⟨w.heap.size, k + 1, none⟩ (.int .i64 (off wd (k + 1) : Nat))).cell? ⟨bw, ow + (k + 1), none⟩ = wr.cell? ⟨bw, ow + (k + 1), none⟩).trans c1
      clear hrow l0
      go_wp2
      go_quiet (fail)
      go_wp2
      go_roundw
      case rel => exact ⟨k + 1, by omega, by go_num, by rw [HO.out]; simp, rowIs_drewN (HR.out _ rfl) _, below_drewN (hbel.setCell (by simp) _) _⟩
      case measure => simp [intOf]; omega
    · have hkN : k = N := by omega
      subst hkN
      have hkc : wr.cell? ⟨w.heap.size, k + 1, none⟩ = some (.int .i64 0) := by have h := hrow.cell (i := k + 1) (by omega); simpa using h
      have hi2 : (k : Int) + 1 < (k : Int) + 1 + 1 := by omega
      have HR : Hid (∀ v : Value, v = .int .i64 (off wd (k + 1) : Nat) → (wr.setCell ⟨w.heap.size, k + 1, none⟩ v).rowIs w.heap.size 3 (k + 2) (fun j => .int .i64 (off wd j : Nat))) := by
        rintro v rfl
        refine (hrow.set (k + 1) _).congr fun i hi => ?_
        by_cases e : i = k + 1
        · subst e; rw [if_pos rfl]
        · rw [if_neg e, if_pos (by omega)]
      clear hrow
      go_wp2
      go_ret
      exact ⟨rfl, HR.out _ rfl, hbel.setCell (by simp) _⟩

/-- b1SameLevel of levels that stand for the same. -/
theorem sameLevel_true (a1 : Option Addr) (b1 o1 n c1 : Nat) (f1 : Nat → Nat) (a2 : Option Addr) (b2 o2 c2 : Nat) (f2 : Nat → Nat) (w : World) (hn : n ≤ 1048576)
    (h1 : 0 < n → a1 = some ⟨b1, o1, none⟩) (h2 : 0 < n → a2 = some ⟨b2, o2, none⟩)
    (g1 : ∀ i, i < n → w.cell? ⟨b1, o1 + i, none⟩ = some (.float .f64 (f1 i))) (g2 : ∀ i, i < n → w.cell? ⟨b2, o2 + i, none⟩ = some (.float .f64 (f2 i))) (he : ∀ i, i < n → Eqv (f1 i) (f2 i)) :
    Calls Try.prog 14 #[.slice a1 n c1, .slice a2 n c2] w fun e w' => e = .returned (.bool true) ∧ ∃ m, w' = w.drewN m := by
  go_enter Try.func14, Try.ntmps14
  go_wp2
  go_loopw [13] (fun i wr => ∃ k : Nat, k ≤ n ∧ i = .int .i64 (k : Int) ∧ ∃ m, wr = w.drewN m) (fun i _ => n - (intOf i).toNat)
  case atStart => exact ⟨0, Nat.zero_le _, rfl, 0, rfl⟩
  case round =>
    obtain ⟨k, hk, rfl, m, hwr⟩ := hrel
    by_cases hlt : k < n
    · have e1 := h1 (by omega)
      have e2 := h2 (by omega)
      subst e1; subst e2
      have k1 : wr.cell? ⟨b1, o1 + k, none⟩ = some (.float .f64 (f1 k)) := by rw [hwr]; exact g1 k hlt
      have k2 : wr.cell? ⟨b2, o2 + k, none⟩ = some (.float .f64 (f2 k)) := by rw [hwr]; exact g2 k hlt
      have ke := he k hlt
      have hi : (k : Int) < (n : Int) := by omega
      have HW : Hid (wr = w.drewN m) := hwr
      clear g1 g2 he hwr h1 h2
      go_wp2
      go_quiet ((go_at_call 16; exact (sameF_true _ _ ke _).mono (fun e w' h => ⟨h.1, by obtain ⟨n', rfl⟩ := h.2; exact ⟨_, World.drewN_drewN _ _ _⟩⟩)))
      go_wp2
      go_roundw
      case rel => exact ⟨k + 1, by omega, by go_num, _, by rw [HW.out]; exact World.drewN_drewN _ _ _⟩
      case measure => simp [intOf]; omega
    · go_wp2
      go_ret
      exact ⟨rfl, m, rfl⟩

end Go.Proofs.Qxb6603460a
