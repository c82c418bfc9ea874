import Derived.Test.Qxb6603460aGradWalk
namespace Go.Proofs.Qxb6603460a
open Go.ChangeShapes Go.WideShapes Go.ChangeAt Go.RowKit
set_option linter.unusedVariables false

theorem bytes21_yes (a : Option Addr) (n c : Nat) (a' : Option Addr) (n' c' : Nat) (a'' : Option Addr) (n'' c'' : Nat) (a3 : Option Addr) (n3 c3 : Nat) (a4 : Option Addr) (n4 c4 : Nat) (w : World) (hn : (n : Int) + (n' : Int) + (n'' : Int) + (n3 : Int) + (n4 : Int) ≤ 1048576) :
    Calls Try.prog 21 #[.slice a n c, .slice a' n' c', .slice a'' n'' c'', .slice a3 n3 c3, .slice a4 n4 c4] w fun e w' => e = .returned (.bool true) ∧ w' = w := by
  have h1 : (n : Int) ≤ 1048576 := by omega
  have h2 : (n' : Int) ≤ 1048576 := by omega
  have h3 : (n'' : Int) ≤ 1048576 := by omega
  have h4 : (n3 : Int) ≤ 1048576 := by omega
  have h5 : (n4 : Int) ≤ 1048576 := by omega
  have h6 : (n : Int) + (n' : Int) ≤ 1048576 := by omega
  have h7 : (n : Int) + (n' : Int) + (n'' : Int) ≤ 1048576 := by omega
  have h8 : (n : Int) + (n' : Int) + (n'' : Int) + (n3 : Int) ≤ 1048576 := by omega
  go_enter Try.func21, Try.ntmps21
  go_wp2
  go_ret
  exact ⟨rfl, rfl⟩

theorem bytes21_no (a : Option Addr) (n c : Nat) (a' : Option Addr) (n' c' : Nat) (a'' : Option Addr) (n'' c'' : Nat) (a3 : Option Addr) (n3 c3 : Nat) (a4 : Option Addr) (n4 c4 : Nat) (w : World) (hn : 1048576 < (n : Int) + (n' : Int) + (n'' : Int) + (n3 : Int) + (n4 : Int)) :
    Calls Try.prog 21 #[.slice a n c, .slice a' n' c', .slice a'' n'' c'', .slice a3 n3 c3, .slice a4 n4 c4] w fun e w' => e = .returned (.bool false) ∧ w' = w := by
  by_cases h0 : (n : Int) ≤ 1048576
  · by_cases h1 : (n' : Int) ≤ 1048576
    · by_cases h2 : (n : Int) + (n' : Int) ≤ 1048576
      · by_cases h3 : (n'' : Int) ≤ 1048576
        · by_cases h4 : (n : Int) + (n' : Int) + (n'' : Int) ≤ 1048576
          · by_cases h5 : (n3 : Int) ≤ 1048576
            · by_cases h6 : (n : Int) + (n' : Int) + (n'' : Int) + (n3 : Int) ≤ 1048576
              · by_cases h7 : (n4 : Int) ≤ 1048576
                · go_enter Try.func21, Try.ntmps21
                  go_wp2
                  go_ret
                  exact ⟨rfl, rfl⟩
                · go_enter Try.func21, Try.ntmps21
                  go_wp2
                  go_ret
                  exact ⟨rfl, rfl⟩
              · go_enter Try.func21, Try.ntmps21
                go_wp2
                go_ret
                exact ⟨rfl, rfl⟩
            · go_enter Try.func21, Try.ntmps21
              go_wp2
              go_ret
              exact ⟨rfl, rfl⟩
          · go_enter Try.func21, Try.ntmps21
            go_wp2
            go_ret
            exact ⟨rfl, rfl⟩
        · go_enter Try.func21, Try.ntmps21
          go_wp2
          go_ret
          exact ⟨rfl, rfl⟩
      · go_enter Try.func21, Try.ntmps21
        go_wp2
        go_ret
        exact ⟨rfl, rfl⟩
    · go_enter Try.func21, Try.ntmps21
      go_wp2
      go_ret
      exact ⟨rfl, rfl⟩
  · go_enter Try.func21, Try.ntmps21
    go_wp2
    go_ret
    exact ⟨rfl, rfl⟩

/-- The thin function around addGradient. -/
theorem zzGrad_any (bw ow N capw : Nat) (wd : Nat → Nat) (ap : Option Addr) (bp op np cp : Nat) (P : Nat → Nat) (ag : Option Addr) (bg ng cg : Nat) (G : Nat → Nat) (ax : Option Addr) (bx ox cx : Nat) (X : Nat → Nat)
    (aT : Option Addr) (bt ot nt ct : Nat) (T : Nat → Nat) (w : World)
    (hw : ∀ j, j < N + 1 → w.cell? ⟨bw, ow + j, none⟩ = some (.int .i64 (wd j))) (hL : N + 1 ≤ 4096) (hwd : ∀ j, j < N + 1 → wd j ≤ 1048576)
    (hoff : off wd (N + 1) ≤ np) (hcap : np ≤ cp) (hnp : np ≤ 131072) (hap : 0 < np → ap = some ⟨bp, op, none⟩) (hp : ∀ i, i < np → w.cell? ⟨bp, op + i, none⟩ = some (.float .f64 (P i)))
    (hog : off wd (N + 1) ≤ ng) (hgc : ng ≤ cg) (hng : ng ≤ 131072) (hag : 0 < ng → ag = some ⟨bg, 0, none⟩) (hrow : 0 < ng → w.rowIs bg 32 ng (fun i => .float .f64 (G i)))
    (hax : 0 < wd 0 → ax = some ⟨bx, ox, none⟩) (hx : ∀ i, i < wd 0 → w.cell? ⟨bx, ox + i, none⟩ = some (.float .f64 (X i)))
    (htl : wd N ≤ nt) (hat : 0 < nt → aT = some ⟨bt, ot, none⟩) (ht : ∀ i, i < nt → w.cell? ⟨bt, ot + i, none⟩ = some (.float .f64 (T i)))
    (hbg : bg < w.heap.size) (nw : bw ≠ bg) (npg : bp ≠ bg) (nx : bx ≠ bg) (ntg : bt ≠ bg) :
    Calls Try.prog 22 #[.slice (some ⟨bw, ow, none⟩) (N + 1) capw, .slice ap np cp, .slice ag ng cg, .slice ax (wd 0) cx, .slice aT nt ct] w fun e w' => e = .returned (.tuple #[]) ∧ ∃ G' : Nat → Nat,
      (0 < ng → w'.rowIs bg 32 ng (fun i => .float .f64 (G' i))) ∧ (∀ k, k < off wd (N + 1) → Eqv (G' k) (can .add (G k) (inc wd N P X T k))) ∧ (∀ k, off wd (N + 1) ≤ k → G' k = G k) ∧ But w.heap.size ng bg w w' := by
  have H := addGradient_any bw ow N capw wd ap bp op np cp P ag bg ng cg G ax bx ox cx X aT bt ot nt ct T w hw hL hwd hoff hcap hnp hap hp hog hgc hng hag hrow hax hx htl hat ht hbg nw npg nx ntg
  clear hw hL hwd hoff hcap hnp hap hp hog hgc hng hag hrow hax hx htl hat ht hbg nw npg nx ntg
  go_enter Try.func22, Try.ntmps22
  go_wp2_with fail
  refine H.mono ?_
  clear H
  rintro e w' ⟨rfl, G', h1, h2, h3, h4⟩
  go_wp2
  go_end0
  exact ⟨rfl, G', h1, h2, h3, h4⟩

/-- A slice of floats at the beginning of a block. -/
structure Src (w : World) (a : Option Addr) (b n : Nat) (f : Nat → Nat) : Prop where
  at_ : 0 < n → a = some ⟨b, 0, none⟩
  cell : ∀ i, i < n → w.cell? ⟨b, i, none⟩ = some (.float .f64 (f i))
  lt : b < w.heap.size

theorem Src.below {w w' : World} {a : Option Addr} {b n : Nat} {f : Nat → Nat} (h : Src w a b n f) (hb : Below w.heap.size w w') : Src w' a b n f :=
  ⟨h.at_, fun i hi => (hb.cell (cell_lt (h.cell i hi))).trans (h.cell i hi), Nat.lt_of_lt_of_le h.lt hb.size⟩
theorem Src.but {w w' : World} {a : Option Addr} {b n ng bg : Nat} {f : Nat → Nat} (h : Src w a b n f) (hb : But w.heap.size ng bg w w') (hne : b ≠ bg) : Src w' a b n f :=
  ⟨h.at_, fun i hi => (hb.cell (cell_lt (h.cell i hi)) hne).trans (h.cell i hi), Nat.lt_of_lt_of_le h.lt hb.size⟩
theorem Src.cell0 {w : World} {a : Option Addr} {b n : Nat} {f : Nat → Nat} (h : Src w a b n f) (i : Nat) (hi : i < n) : w.cell? ⟨b, 0 + i, none⟩ = some (.float .f64 (f i)) := by
  rw [Nat.zero_add]; exact h.cell i hi

theorem FCl.pick {w w' : World} {a' : Option Addr} {bd n : Nat} {f : Nat → Nat} (h : FCl w w' a' bd n f) (v : Nat) (hv : v < w.heap.size) : ∃ b, Src w' a' b n f ∧ (b = v ∨ w.heap.size ≤ b) := by
  by_cases h0 : 0 < n
  · exact ⟨bd, ⟨h.at_, fun i hi => (h.row h0).cell hi, (h.row h0).lt⟩, .inr h.base⟩
  · exact ⟨v, ⟨fun h1 => by omega, fun i hi => by omega, Nat.lt_of_lt_of_le hv h.bel.size⟩, .inl rfl⟩

theorem FCl.pickRow {w w' : World} {a' : Option Addr} {bd n : Nat} {f : Nat → Nat} (h : FCl w w' a' bd n f) (v : Nat) (hv : v < w.heap.size) :
    ∃ b, (0 < n → a' = some ⟨b, 0, none⟩) ∧ (0 < n → w'.rowIs b 32 n (fun i => .float .f64 (f i))) ∧ b < w'.heap.size ∧ ((b = v ∧ n = 0) ∨ w.heap.size ≤ b) := by
  by_cases h0 : 0 < n
  · exact ⟨bd, h.at_, h.row, (h.row h0).lt, .inr h.base⟩
  · exact ⟨v, fun h1 => by omega, fun h1 => by omega, Nat.lt_of_lt_of_le hv h.bel.size, .inl ⟨rfl, by omega⟩⟩

/-! ### the plain law -/
/-- What stands in z is what is added. -/
theorem z_inc {Z D : Nat → Nat} {k : Nat} (h : Eqv (Z k) (can .add 0 (D k))) : NEq (Z k) (D k) := h.neq.trans (zero_add_neq read0)

theorem g_sum {gv g z d : Nat} (W : World) (h : Eqv gv (can .add g d)) (hz : NEq z d) : NEq gv (fop .add g z W) :=
  h.neq.trans ((add_neq (NEq.refl _) hz.symm).trans (fop_eqv W (Eqv.refl _) (Eqv.refl _)).neq.symm)

theorem z_sub {z a l t : Nat} (W : World) (h : NEq z (can .sub l t)) (ha : Eqv a l) : NEq z (fop .sub a t W) :=
  h.trans (fop_eqv W ha (Eqv.refl _)).neq.symm

theorem z_mul {z zb d a l : Nat} (W : World) (h : NEq z (can .mul d l)) (hb : NEq zb d) (ha : Eqv a l) : NEq z (fop .mul zb a W) :=
  h.trans ((mul_neq hb.symm (NEq.refl _)).trans (fop_eqv W (Eqv.refl _) ha).neq.symm)

theorem s_step {s s' p z d : Nat} (W W' : World) (h : NEq s s') (hz : NEq z d) : NEq (fop .add s (fop .mul p z W) W') (can .add s' (can .mul p d)) :=
  (fop_eqv W' (Eqv.refl _) (Eqv.refl _)).neq.trans (add_neq h ((fop_eqv W (Eqv.refl _) (Eqv.refl _)).neq.trans (mul_neq (NEq.refl _) hz)))

end Go.Proofs.Qxb6603460a
