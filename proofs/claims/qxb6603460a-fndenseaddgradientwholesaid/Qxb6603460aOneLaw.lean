import Derived.Test.Qxb6603460aOffs
namespace Go.Proofs.Qxb6603460a
open Go.ChangeShapes Go.WideShapes Go.ChangeAt Go.RowKit
set_option linter.unusedVariables false

theorem dot_congr {P Q A A' : Nat → Nat} {o o' s s' : Nat} (hs : s = s') : ∀ n, (∀ j, j < n → P (o + j) = Q (o' + j)) → (∀ j, j < n → A j = A' j) → dot P o A s n = dot Q o' A' s' n
  | 0, _, _ => hs
  | n + 1, h1, h2 => by
    simp only [dot]
    rw [dot_congr hs n (fun j hj => h1 j (by omega)) (fun j hj => h2 j (by omega)), h1 n (by omega), h2 n (by omega)]

/-- One unit reads its own row of weights and its own bias. -/
theorem pre_congr {wd : Nat → Nat} {P Q A A' : Nat → Nat} {l i : Nat} (h1 : ∀ j, j < wd l → P (off wd (l + 1) + i * wd l + j) = Q (off wd (l + 1) + i * wd l + j))
    (h2 : P (off wd (l + 1) + wd (l + 1) * wd l + i) = Q (off wd (l + 1) + wd (l + 1) * wd l + i)) (h3 : ∀ j, j < wd l → A j = A' j) : pre wd P A l i = pre wd Q A' l i :=
  dot_congr h2 _ h1 h3

theorem row_lt {o i n j : Nat} (hi : i < o) (hj : j < n) : i * n + j < o * n := by
  have h1 : (i + 1) * n ≤ o * n := Nat.mul_le_mul_right _ hi
  rw [Nat.succ_mul] at h1
  omega

theorem lev_congr {wd : Nat → Nat} {N : Nat} {P Q X : Nat → Nat} : ∀ m, (∀ i, i < off wd (m + 1) → P i = Q i) → ∀ i, (m = 0 ∨ i < wd m) → lev wd N P X m i = lev wd N Q X m i
  | 0, _, i, _ => rfl
  | m + 1, h, i, hi => by
    have hi' : i < wd (m + 1) := by
      rcases hi with h | h
      · omega
      · exact h
    have ho : off wd (m + 1 + 1) = off wd (m + 1) + wd (m + 1) * (wd m + 1) := off_succ wd m
    have hs : wd (m + 1) * (wd m + 1) = wd (m + 1) * wd m + wd (m + 1) := Nat.mul_succ _ _
    simp only [lev]
    congr 1
    refine pre_congr (fun j hj => h _ ?_) (h _ ?_) (fun j hj => lev_congr m (fun t ht => h t ?_) j (.inr hj))
    · have := row_lt hi' hj
      omega
    · omega
    · omega

/-- The unit that a slot of layer l+1 feeds. -/
theorem lev_unit {wd : Nat → Nat} {N : Nat} {P Q X : Nat → Nat} {l p : Nat} (hPQ : ∀ i, i ≠ p → P i = Q i) (h1 : off wd (l + 1) ≤ p) (h2 : p < off wd (l + 2)) (i : Nat) (hi : i < wd (l + 1))
    (hw : p - off wd (l + 1) < wd (l + 1) * wd l → i ≠ (p - off wd (l + 1)) / wd l) (hb : ¬ p - off wd (l + 1) < wd (l + 1) * wd l → i ≠ p - off wd (l + 1) - wd (l + 1) * wd l) :
    lev wd N P X (l + 1) i = lev wd N Q X (l + 1) i := by
  simp only [lev]
  congr 1
  refine pre_congr (fun j hj => hPQ _ fun e => ?_) (hPQ _ fun e => ?_) (fun j hj => lev_congr l (fun t ht => hPQ t (by omega)) j (.inr hj))
  · have hr := row_lt hi hj
    have e2 : p - off wd (l + 1) = i * wd l + j := by omega
    refine hw (by omega) ?_
    rw [e2, Nat.add_comm, Nat.mul_comm, Nat.add_mul_div_left _ _ (by omega), Nat.div_eq_of_lt hj]
    omega
  · by_cases c : p - off wd (l + 1) < wd (l + 1) * wd l
    · omega
    · exact hb c (by omega)

/-- A level as a slice, with its exact length. -/
theorem Made.full {w : World} {B ba L lr l : Nat} {wd : Nat → Nat} {ax : Option Addr} {bx ox nx cx : Nat} {X : Nat → Nat} {bl : Nat → Nat} {val lv : Nat → Nat → Nat} (h : Made w B ba L lr l wd (.slice ax nx cx) bl val lv)
    (hlv : ∀ i, lv 0 i = X i) (hax : 0 < nx → ax = some ⟨bx, ox, none⟩) (hx : ∀ i, i < nx → w.cell? ⟨bx, ox + i, none⟩ = some (.float .f64 (X i)))
    (k : Nat) (hk : k < l) (hl : l ≤ lr) (hkL : k < L) :
    ∃ (al : Option Addr) (bb oo cl : Nat) (A : Nat → Nat), w.cell? ⟨ba, k, none⟩ = some (.slice al (if k = 0 then nx else wd k) cl) ∧ (0 < (if k = 0 then nx else wd k) → al = some ⟨bb, oo, none⟩) ∧
      (∀ j, j < (if k = 0 then nx else wd k) → w.cell? ⟨bb, oo + j, none⟩ = some (.float .f64 (A j))) ∧ ∀ j, j < (if k = 0 then nx else wd k) → Eqv (A j) (lv k j) := by
  have hc := h.row.cell hkL
  simp only [if_pos (show k < lr by omega), rowV] at hc
  by_cases e : k = 0
  · subst e
    simp only [if_pos] at hc ⊢
    exact ⟨ax, bx, ox, cx, X, hc, hax, hx, fun j hj => by rw [hlv]; exact Eqv.refl _⟩
  · rw [if_neg e] at hc
    simp only [if_neg e]
    exact ⟨_, bl k, 0, _, val k, hc, fun _ => rfl, fun j hj => by rw [Nat.zero_add]; exact (h.rows k (by omega) hk).cell hj, h.eqv k (by omega) hk⟩

/-! ### the thin function around levels; the bound on lengths -/
theorem zzLev_any (bw ow N capw : Nat) (wd : Nat → Nat) (ap : Option Addr) (bp op np cp : Nat) (P : Nat → Nat) (ax : Option Addr) (bx ox nx cx : Nat) (X : Nat → Nat) (w : World)
    (hw : ∀ j, j < N + 1 → w.cell? ⟨bw, ow + j, none⟩ = some (.int .i64 (wd j))) (hL : N + 1 ≤ 4096) (hwd : ∀ j, j < N + 1 → wd j ≤ 1048576)
    (hoff : off wd (N + 1) ≤ np) (hcap : np ≤ cp) (hnp : np ≤ 131072) (hap : 0 < np → ap = some ⟨bp, op, none⟩) (hp : ∀ i, i < np → w.cell? ⟨bp, op + i, none⟩ = some (.float .f64 (P i)))
    (hx0 : wd 0 ≤ nx) (hax : 0 < nx → ax = some ⟨bx, ox, none⟩) (hx : ∀ i, i < nx → w.cell? ⟨bx, ox + i, none⟩ = some (.float .f64 (X i))) :
    Calls Try.prog 12 #[.slice (some ⟨bw, ow, none⟩) (N + 1) capw, .slice ap np cp, .slice ax nx cx] w fun e w' => ∃ ba bl val,
      e = .returned (.slice (some ⟨ba, 0, none⟩) (N + 1) (N + 1)) ∧ Made w' w.heap.size ba (N + 1) (N + 1) (N + 1) wd (.slice ax nx cx) bl val (lev wd N P X) ∧ Below w.heap.size w w' := by
  have H := levels_any bw ow N capw wd ap bp op np cp P ax bx ox nx cx X w hw hL hwd hoff hcap hnp hap hp hx0 hax hx
  clear hw hL hwd hoff hcap hnp hap hp hx0 hax hx
  go_enter Try.func12, Try.ntmps12
  go_wp2_with fail
  refine H.mono ?_
  clear H
  rintro e w' ⟨ba, bl, val, rfl, h1, h2⟩
  go_wp2
  go_ret
  exact ⟨ba, bl, val, rfl, h1, h2⟩

theorem bytes20_yes (a : Option Addr) (n c : Nat) (a' : Option Addr) (n' c' : Nat) (a'' : Option Addr) (n'' c'' : Nat) (p : Int) (v : Nat) (w : World) (hn : (n : Int) + (n' : Int) + (n'' : Int) ≤ 1048576) :
    Calls Try.prog 20 #[.slice a n c, .slice a' n' c', .slice a'' n'' c'', .int .i64 p, .float .f64 v] w fun e w' => e = .returned (.bool true) ∧ w' = w := by
  have h1 : (n : Int) ≤ 1048576 := by omega
  have h2 : (n' : Int) ≤ 1048576 := by omega
  have h3 : (n'' : Int) ≤ 1048576 := by omega
  have h4 : (n : Int) + (n' : Int) ≤ 1048576 := by omega
  go_enter Try.func20, Try.ntmps20
  go_wp2
  go_ret
  exact ⟨rfl, rfl⟩

theorem bytes20_no (a : Option Addr) (n c : Nat) (a' : Option Addr) (n' c' : Nat) (a'' : Option Addr) (n'' c'' : Nat) (p : Int) (v : Nat) (w : World) (hn : 1048576 < (n : Int) + (n' : Int) + (n'' : Int)) :
    Calls Try.prog 20 #[.slice a n c, .slice a' n' c', .slice a'' n'' c'', .int .i64 p, .float .f64 v] w fun e w' => e = .returned (.bool false) ∧ w' = w := by
  by_cases h1 : (n : Int) ≤ 1048576
  · by_cases h2 : (n' : Int) ≤ 1048576
    · by_cases h4 : (n : Int) + (n' : Int) ≤ 1048576
      · by_cases h3 : (n'' : Int) ≤ 1048576
        all_goals
          go_enter Try.func20, Try.ntmps20
          go_wp2
          go_ret
          exact ⟨rfl, rfl⟩
      · go_enter Try.func20, Try.ntmps20
        go_wp2
        go_ret
        exact ⟨rfl, rfl⟩
    · go_enter Try.func20, Try.ntmps20
      go_wp2
      go_ret
      exact ⟨rfl, rfl⟩
  · go_enter Try.func20, Try.ntmps20
    go_wp2
    go_ret
    exact ⟨rfl, rfl⟩

end Go.Proofs.Qxb6603460a
