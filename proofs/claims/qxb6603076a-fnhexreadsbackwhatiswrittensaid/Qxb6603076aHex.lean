import Derived.Test.Qxb6603076aSkipsLaw
namespace Go.Proofs.Qxb6603076a
open Go.ChangeShapes Go.WideShapes Go.ChangeAt Go.RowKit
set_option linter.unusedVariables false

/-- The byte c is a hexadecimal digit of value d. -/
def IsHex (c d : Int) : Prop := (48 ≤ c ∧ c ≤ 57 ∧ d = c - 48) ∨ (97 ≤ c ∧ c ≤ 102 ∧ d = c - 87) ∨ (65 ≤ c ∧ c ≤ 70 ∧ d = c - 55)

/-- What the first k digits come to. -/
def acc (d : Nat → Int) : Nat → Int
  | 0 => 0
  | k + 1 => 16 * acc d k + d k

theorem IsHex.bd {c d : Int} (h : IsHex c d) : 0 ≤ d ∧ d ≤ 15 := by
  rcases h with h | h | h <;> omega

theorem acc_bd {d : Nat → Int} (h : ∀ i, i < 4 → 0 ≤ d i ∧ d i ≤ 15) (k : Nat) (hk : k ≤ 4) : 0 ≤ acc d k ∧ acc d k < 16 ^ k := by
  induction k with
  | zero => simp [acc]
  | succ n ih =>
    have a := ih (by omega)
    have b := h n (by omega)
    simp only [acc, Int.pow_succ]
    omega

theorem acc_lt {d : Nat → Int} (h : ∀ i, i < 4 → 0 ≤ d i ∧ d i ≤ 15) (k : Nat) (hk : k < 4) : 0 ≤ acc d k ∧ acc d k ≤ 4095 := by
  have a := acc_bd h k (by omega)
  have : (16 : Int) ^ k ≤ 16 ^ 3 := by
    have : k = 0 ∨ k = 1 ∨ k = 2 ∨ k = 3 := by omega
    rcases this with rfl | rfl | rfl | rfl <;> decide
  omega

theorem or4 (A t : Int) (h0 : 0 ≤ A) (h1 : A ≤ 4095) (h2 : 0 ≤ t) (h3 : t ≤ 15) : bits .or .i32 (A * 16) t = 16 * A + t := by
  rw [bits_join .i32 31 (by decide) wraps_i32 4 (A * 16) t (by omega) (by omega) (by omega) h2 (by omega) (by omega)]
  omega

theorem rd_put {w : World} {b : Nat} {s d : Value} {p : Value} (h : w.rowIs b 40 3 (rd s p d)) {x : Int} {k : Nat} (hx : x = (k : Int)) :
    (w.setCell ⟨b, 1, none⟩ (.int .i64 x)).rowIs b 40 3 (rd s (.int .i64 (k : Int)) d) := by
  subst hx
  refine (h.set 1 _).congr fun i hi => ?_
  match i, hi with
  | 0, _ => rfl
  | 1, _ => simp [rd]
  | 2, _ => rfl

set_option maxHeartbeats 1000000 in
theorem hex_any (br bd n p : Nat) (zs : Nat → Int) (d : Nat → Int) (dd : Value) (w : World) (hn : n ≤ 2000000) (hp : p + 4 ≤ n)
    (hr : w.rowIs br 40 3 (rd (.slice (some ⟨bd, 0, none⟩) n n) (.int .i64 p) dd)) (hne : bd ≠ br)
    (hd : ∀ i, i < n → w.cell? ⟨bd, i, none⟩ = some (.int .u8 (zs i))) (hx : ∀ i, i < 4 → IsHex (zs (p + i)) (d i)) :
    Calls Try.prog 21 #[.pointer (some ⟨br, 0, none⟩)] w fun e w' => 
      e = .returned (.tuple #[.int .i32 (acc d 4), .bool true]) ∧ w'.rowIs br 40 3 (rd (.slice (some ⟨bd, 0, none⟩) n n) (.int .i64 ((p + 4 : Nat) : Int)) dd) ∧ Only br w w' := by
  have c0 : w.cell? ⟨br, 0, none⟩ = some (.slice (some ⟨bd, 0, none⟩) n n) := hr.cell (i := 0) (by omega)
  have c1 : w.cell? ⟨br, 1, none⟩ = some (.int .i64 p) := hr.cell (i := 1) (by omega)
  have f1 : w.frozen? ⟨br, 1, none⟩ = false := hr.frozen 1
  have b1 : decide ((n : Int) - (p : Int) < 4) = false := decide_eq_false (by omega)
  have b2 : ¬ (n = p) := by omega
  go_enter Try.func21, Try.ntmps21
  go_wp2
  go_quiet (fail)
  go_wp2
  go_quiet (fail)
  go_wp2
  have hdb : ∀ i, i < 4 → 0 ≤ d i ∧ d i ≤ 15 := fun i hi => (hx i hi).bd
  go_loop [4, 34] (fun r i => ∃ k : Nat, k ≤ 4 ∧ i = .int .i64 k ∧ r = .int .i32 (acc d k)) (fun _ i => 4 - (intOf i).toNat)
  case atStart => exact ⟨0, by omega, rfl, rfl⟩
  case round =>
    obtain ⟨k, hk, rfl, rfl⟩ := hrel
    by_cases hlt : k < 4
    · have hc := hd (p + k) (by omega)
      have hxk := hx k hlt
      obtain ⟨ha0, ha1⟩ := acc_lt hdb k hlt
      obtain ⟨hd0, hd1⟩ := hdb k hlt
      have HA : Hid (acc d (k + 1) = 16 * acc d k + d k) := rfl
      generalize zs (p + k) = c at hc hxk
      generalize acc d k = A at HA ha0 ha1
      generalize d k = dk at HA hxk hd0 hd1
      clear hd hx hdb hr
      have fin : ∀ t : Int, t = dk → Value.int .i32 (bits .or .i32 (A * 16) t) = .int .i32 (acc d (k + 1)) := by
        rintro t rfl
        rw [HA.out, or4 A t ha0 ha1 hd0 hd1]
      have FIN : Hid (∀ t : Int, t = dk → Value.int .i32 (bits .or .i32 (A * 16) t) = .int .i32 (acc d (k + 1))) := fin
      clear fin
      rcases hxk with ⟨h1, h2, h3⟩ | ⟨h1, h2, h3⟩ | ⟨h1, h2, h3⟩
      · have H3 : Hid (dk = c - 48) := h3
        clear h3
        go_wp2
        go_round
        case rel => exact ⟨_, _, _, _, _, _, ⟨k + 1, by omega, rfl, FIN.out _ H3.out.symm⟩, rfl, rfl, rfl, rfl, rfl, by go_num⟩
        case measure => simp [intOf]; omega
      · have H3 : Hid (dk = c - 87) := h3
        clear h3
        go_wp2
        go_round
        case rel => exact ⟨_, _, _, _, _, _, ⟨k + 1, by omega, rfl, FIN.out _ (by have := H3.out; omega)⟩, rfl, rfl, rfl, rfl, rfl, by go_num⟩
        case measure => simp [intOf]; omega
      · have H3 : Hid (dk = c - 55) := h3
        clear h3
        go_wp2
        go_round
        case rel => exact ⟨_, _, _, _, _, _, ⟨k + 1, by omega, rfl, FIN.out _ (by have := H3.out; omega)⟩, rfl, rfl, rfl, rfl, rfl, by go_num⟩
        case measure => simp [intOf]; omega
    · have hk4 : k = 4 := by omega
      subst hk4
      clear hd hx hdb
      go_wp2
      go_ret2
      refine ⟨rfl, ?_, ((Only.refl _ _).drewN _).setCell 1 _⟩
      exact rd_put (x := (p : Int) + 4) (k := p + 4) (rowIs_drewN hr _) (by omega)

end Go.Proofs.Qxb6603076a
