import Derived.Test.Qxb6603076aHex
namespace Go.Proofs.Qxb6603076a
open Go.ChangeShapes Go.WideShapes Go.ChangeAt Go.RowKit
set_option linter.unusedVariables false

theorem results_tmp4 {fn : Func} {t u v x : Tmp} (h : fn.results = #[.tmp t, .tmp u, .tmp v, .tmp x]) (tmps : Array Value) (P : Program) (w : World) :
    (results fn tmps).run P w = .ok (.tuple #[tmps.getD t undef, tmps.getD u undef, tmps.getD v undef, tmps.getD x undef]) w := by
  simp [results, h]

set_option maxHeartbeats 1000000 in
theorem zzHex_any (bd n p : Nat) (zs : Nat → Int) (d : Nat → Int) (dd : Int) (w : World) (hn : n ≤ 2000000) (hp : p + 4 ≤ n)
    (hd : ∀ i, i < n → w.cell? ⟨bd, i, none⟩ = some (.int .u8 (zs i))) (hx : ∀ i, i < 4 → IsHex (zs (p + i)) (d i)) :
    Calls Try.prog 18 #[.slice (some ⟨bd, 0, none⟩) n n, .int .i64 p, .int .i64 dd] w fun e w' => 
      e = .returned (.tuple #[.int .i32 (acc d 4), .bool true, .int .i64 ((p : Int) + 4), .int .i64 dd]) ∧ Below w.heap.size w w' := by
  have hne : bd ≠ w.heap.size := by
    have := cell_lt (hd 0 (by omega))
    simp at this
    omega
  go_enter Try.func18, Try.ntmps18
  go_wp2_with fail
  refine (hex_any w.heap.size bd n p zs d (.int .i64 dd) _ hn hp (rd_box w _ _ _) hne (fun i hi => cell_alloc _ (hd i hi)) hx).mono ?_
  rintro e w1 ⟨rfl, hrow, honly⟩
  have c1 : w1.cell? ⟨w.heap.size, 1, none⟩ = some (.int .i64 ((p : Int) + 4)) := hrow.cell (i := 1) (by omega)
  have c2 : w1.cell? ⟨w.heap.size, 2, none⟩ = some (.int .i64 dd) := hrow.cell (i := 2) (by omega)
  have hb : Below w.heap.size w w1 := ((Below.refl _ _).alloc (Nat.le_refl _) _).trans (honly.below (Nat.le_refl _))
  clear honly hx hd
  go_wp2
  go_quiet (fail)
  go_wp2
  refine bodyPost_ret (results_tmp4 rfl _ _ _) rfl ?_
  exact ⟨rfl, below_drewN hb _⟩

theorem bytes17_yes (a : Option Addr) (n c : Nat) (v m : Int) (a' : Option Addr) (n' c' : Nat) (d : Int) (w : World) (hn : (n : Int) + (n' : Int) ≤ 1048576) :
    Calls Try.prog 17 #[.slice a n c, .int .u16 v, .int .u8 m, .slice a' n' c', .int .i64 d] w fun e w' => e = .returned (.bool true) ∧ w' = w := by
  have h1 : (n : Int) ≤ 1048576 := by omega
  have h2 : (n' : Int) ≤ 1048576 := by omega
  go_enter Try.func17, Try.ntmps17
  go_wp2
  go_ret
  exact ⟨rfl, rfl⟩

theorem bytes17_no (a : Option Addr) (n c : Nat) (v m : Int) (a' : Option Addr) (n' c' : Nat) (d : Int) (w : World) (hn : 1048576 < (n : Int) + (n' : Int)) :
    Calls Try.prog 17 #[.slice a n c, .int .u16 v, .int .u8 m, .slice a' n' c', .int .i64 d] w fun e w' => e = .returned (.bool false) ∧ w' = w := by
  by_cases h1 : (n : Int) ≤ 1048576
  · by_cases h2 : (n' : Int) ≤ 1048576
    · go_enter Try.func17, Try.ntmps17
      go_wp2
      go_ret
      exact ⟨rfl, rfl⟩
    · go_enter Try.func17, Try.ntmps17
      go_wp2
      go_ret
      exact ⟨rfl, rfl⟩
  · go_enter Try.func17, Try.ntmps17
    go_wp2
    go_ret
    exact ⟨rfl, rfl⟩

/-- The digit n (0 to 15), in capitals or not. -/
def hexc (up : Bool) (n : Int) : Int := if n < 10 then 48 + n else if up then 55 + n else 87 + n

theorem isHex_hexc (up : Bool) (n : Int) (h0 : 0 ≤ n) (h1 : n ≤ 15) : IsHex (hexc up n) n := by
  unfold hexc IsHex
  cases up <;> simp <;> split <;> omega

/-- The i-th digit of v. -/
def nib (v : Int) (i : Nat) : Int := v / 2 ^ (12 - 4 * i) % 16

theorem nib_bd (v : Int) (i : Nat) : 0 ≤ nib v i ∧ nib v i ≤ 15 := by
  unfold nib; omega

theorem acc_nib (v : Int) (h0 : 0 ≤ v) (h1 : v ≤ 65535) : acc (nib v) 4 = v := by
  simp [acc, nib]
  omega

/-- What is laid: the prefix, the four digits, the suffix. -/
def framed (z s : Nat → Int) (c : Nat → Int) (n : Nat) (j : Nat) : Int := if j < n then z j else if j < n + 4 then c (j - n) else s (j - (n + 4))

theorem framed_lo (z s c : Nat → Int) (n j : Nat) (h : j < n) : framed z s c n j = z j := by simp [framed, h]
theorem framed_mid (z s c : Nat → Int) (n j : Nat) (h : j < 4) : framed z s c n (n + j) = c j := by
  unfold framed; rw [if_neg (by omega), if_pos (by omega)]; congr 1; omega
theorem framed_hi (z s c : Nat → Int) (n j : Nat) : framed z s c n (n + 4 + j) = s j := by
  unfold framed; rw [if_neg (by omega), if_neg (by omega)]; congr 1; omega

theorem cell_fresh (w : World) (v : Value) (t : TypeId) : (w.alloc (.cells #[v] t)).cell? ⟨w.heap.size, 0, none⟩ = some v := by simp

theorem and15 (x : Int) (h0 : 0 ≤ x) (h1 : x ≤ 65535) : bits .and .i64 x 15 = x % 16 :=
  bits_mask .i64 16 (by decide) (fun n a b => by rw [IntKind.wrap_i64]; omega) 4 (by decide) x h0 (by omega)

theorem and1 (x : Int) (h0 : 0 ≤ x) (h1 : x ≤ 255) : bits .and .u8 x 1 = x % 2 :=
  bits_mask .u8 8 (by decide) wraps_u8 1 (by decide) x h0 (by omega)

theorem upper_at (n : Nat) (h : n < 16) (h' : n < (⟨#[48, 49, 50, 51, 52, 53, 54, 55, 56, 57, 65, 66, 67, 68, 69, 70]⟩ : ByteArray).size) :
    (((⟨#[48, 49, 50, 51, 52, 53, 54, 55, 56, 57, 65, 66, 67, 68, 69, 70]⟩ : ByteArray)[n]'h').toNat : Int) = hexc true n := by
  match n, h with
  | 0, _ => rfl
  | 1, _ => rfl
  | 2, _ => rfl
  | 3, _ => rfl
  | 4, _ => rfl
  | 5, _ => rfl
  | 6, _ => rfl
  | 7, _ => rfl
  | 8, _ => rfl
  | 9, _ => rfl
  | 10, _ => rfl
  | 11, _ => rfl
  | 12, _ => rfl
  | 13, _ => rfl
  | 14, _ => rfl
  | 15, _ => rfl
  | n + 16, h => exact absurd h (by omega)

theorem lower_at (n : Nat) (h : n < 16) (h' : n < (⟨#[48, 49, 50, 51, 52, 53, 54, 55, 56, 57, 97, 98, 99, 100, 101, 102]⟩ : ByteArray).size) :
    (((⟨#[48, 49, 50, 51, 52, 53, 54, 55, 56, 57, 97, 98, 99, 100, 101, 102]⟩ : ByteArray)[n]'h').toNat : Int) = hexc false n := by
  match n, h with
  | 0, _ => rfl
  | 1, _ => rfl
  | 2, _ => rfl
  | 3, _ => rfl
  | 4, _ => rfl
  | 5, _ => rfl
  | 6, _ => rfl
  | 7, _ => rfl
  | 8, _ => rfl
  | 9, _ => rfl
  | 10, _ => rfl
  | 11, _ => rfl
  | 12, _ => rfl
  | 13, _ => rfl
  | 14, _ => rfl
  | 15, _ => rfl
  | n + 16, h => exact absurd h (by omega)

end Go.Proofs.Qxb6603076a
