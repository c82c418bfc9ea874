import Derived.Test.Qxb6603076aPush
namespace Go.Proofs.Qxb6603076a
open Go.ChangeShapes Go.WideShapes Go.ChangeAt Go.RowKit
set_option linter.unusedVariables false

theorem Skips.uniq {zs : Nat → Int} {n p q r : Nat} (h : Skips zs n p q) (k : Skips zs n p r) : q = r := by
  by_cases hp : n ≤ p
  · rw [h.out hp, k.out hp]
  · have h1 := h.inn (by omega)
    have k1 := k.inn (by omega)
    rcases Nat.lt_trichotomy q r with hlt | he | hgt
    · have a := k.sp q h.le hlt
      rw [h.stop (by omega)] at a
      cases a
    · exact he
    · have a := h.sp r k.le hgt
      rw [k.stop (by omega)] at a
      cases a

/-- What is laid: the text up to p, white space m bytes long, the text from p on. -/
def mixed (z s : Nat → Int) (p m : Nat) (j : Nat) : Int := if j < p then z j else if j < p + m then s (j - p) else z (j - m)

theorem mixed_lo (z s : Nat → Int) (p m j : Nat) (h : j < p) : mixed z s p m j = z j := by simp [mixed, h]
theorem mixed_mid (z s : Nat → Int) (p m j : Nat) (h : j < m) : mixed z s p m (p + j) = s j := by
  unfold mixed; rw [if_neg (by omega), if_pos (by omega)]; congr 1; omega
theorem mixed_hi (z s : Nat → Int) (p m j : Nat) (h : p ≤ j) : mixed z s p m (j + m) = z j := by
  unfold mixed; rw [if_neg (by omega), if_neg (by omega)]; congr 1; omega

theorem Skips.mixed {z s : Nat → Int} {n p m q : Nat} (h : Skips z n p q) (hp : p ≤ n) (hs : ∀ j, j < m → isSp (s j) = true) : Skips (mixed z s p m) (n + m) p (q + m) where
  le := by have := h.le; omega
  inn := fun _ => by have := h.inn hp; omega
  out := fun hn => by
    have := h.le
    have := h.inn hp
    omega
  sp := fun i h1 h2 => by
    by_cases hi : i < p + m
    · obtain ⟨j, rfl⟩ : ∃ j, i = p + j := ⟨i - p, by omega⟩
      rw [mixed_mid _ _ _ _ _ (by omega)]
      exact hs j (by omega)
    · obtain ⟨j, rfl⟩ : ∃ j, i = j + m := ⟨i - m, by omega⟩
      rw [mixed_hi _ _ _ _ _ (by omega)]
      exact h.sp j (by omega) (by omega)
  stop := fun hq => by
    rw [mixed_hi _ _ _ _ _ h.le]
    exact h.stop (by omega)

/-- The white-space byte that b chooses. -/
def spb (b : Int) : Int := if b % 4 = 0 then 32 else if b % 4 = 1 then 9 else if b % 4 = 2 then 10 else 13

theorem isSp_spb (b : Int) : isSp (spb b) = true := by
  unfold spb
  split
  · rfl
  · split
    · rfl
    · split <;> rfl

theorem spaceByte_any (b : Int) (h0 : 0 ≤ b) (h1 : b ≤ 255) (w : World) :
    Calls Try.prog 16 #[.int .u8 b] w fun e w' => e = .returned (.int .u8 (spb b)) ∧ w' = w := by
  have hm : b % 4 = 0 ∨ b % 4 = 1 ∨ b % 4 = 2 ∨ b % 4 = 3 := by omega
  unfold spb
  rcases hm with hm | hm | hm | hm
  all_goals
    go_enter Try.func16, Try.ntmps16
    go_wp2
    go_ret
    exact ⟨by simp; rfl, rfl⟩

theorem bytes15_yes (a : Option Addr) (n c : Nat) (p d b : Int) (a' : Option Addr) (n' c' : Nat) (w : World) (hn : (n : Int) + (n' : Int) ≤ 1048576) :
    Calls Try.prog 15 #[.slice a n c, .int .i64 p, .int .i64 d, .int .u8 b, .slice a' n' c'] w fun e w' => e = .returned (.bool true) ∧ w' = w := by
  have h1 : (n : Int) ≤ 1048576 := by omega
  have h2 : (n' : Int) ≤ 1048576 := by omega
  go_enter Try.func15, Try.ntmps15
  go_wp2
  go_ret
  exact ⟨rfl, rfl⟩

theorem bytes15_no (a : Option Addr) (n c : Nat) (p d b : Int) (a' : Option Addr) (n' c' : Nat) (w : World) (hn : 1048576 < (n : Int) + (n' : Int)) :
    Calls Try.prog 15 #[.slice a n c, .int .i64 p, .int .i64 d, .int .u8 b, .slice a' n' c'] w fun e w' => e = .returned (.bool false) ∧ w' = w := by
  by_cases h1 : (n : Int) ≤ 1048576
  · by_cases h2 : (n' : Int) ≤ 1048576
    · go_enter Try.func15, Try.ntmps15
      go_wp2
      go_ret
      exact ⟨rfl, rfl⟩
    · go_enter Try.func15, Try.ntmps15
      go_wp2
      go_ret
      exact ⟨rfl, rfl⟩
  · go_enter Try.func15, Try.ntmps15
    go_wp2
    go_ret
    exact ⟨rfl, rfl⟩

theorem zzNext_c (bd n p : Nat) (a : Option Addr) (zs : Nat → Int) (dd c : Int) (w : World) (hn : n ≤ 2000000)
    (ha : 0 < n → a = some ⟨bd, 0, none⟩)
    (hd : ∀ i, i < n → w.cell? ⟨bd, i, none⟩ = some (.int .u8 (zs i))) :
    Calls Try.prog 14 #[.slice a n n, .int .i64 p, .int .i64 dd, .int .u8 c] w fun e w' => 
      ∃ q : Nat, Skips zs n p q ∧ Below w.heap.size w w' ∧ w'.heap.size = w.heap.size + 1 ∧
       ((q < n ∧ zs q = c ∧ e = .returned (.tuple #[.bool true, .int .i64 ((q + 1 : Nat) : Int), .int .i64 dd])) ∨
        (¬ (q < n ∧ zs q = c) ∧ e = .returned (.tuple #[.bool false, .int .i64 (q : Nat), .int .i64 dd]))) := by
  by_cases h : n = 0
  · subst h
    exact zzNext_cases (w.heap.size + 1) 0 p a zs dd c w hn (fun h => by omega) (by omega) (fun i hi => by omega)
  · refine zzNext_cases bd n p a zs dd c w hn ha (fun e => ?_) hd
    have := cell_lt (hd 0 (by omega))
    simp at this
    omega

end Go.Proofs.Qxb6603076a
