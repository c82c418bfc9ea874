import Derived.Test.Qxb6603460aOneLaw
import Derived.Test.Qxb6603460aEqF
namespace Go.Proofs.Qxb6603460a
open Go.ChangeShapes Go.WideShapes Go.ChangeAt Go.RowKit
set_option linter.unusedVariables false

/-- x <= 0, as the program tests it. -/
def le0 (x : Nat) : Bool := FloatKind.f64.format.order x 0 == some .lt || FloatKind.f64.format.order x 0 == some .eq

theorem le0_eqv {x y : Nat} (h : Eqv x y) : le0 x = le0 y := by unfold le0; rw [order_eqv h (Eqv.refl 0)]

/-- 0 + P[o+j] D[0] + P[o+inn+j] D[1] + .. -/
def gsum (P : Nat → Nat) (o inn j : Nat) (D : Nat → Nat) : Nat → Nat
  | 0 => 0
  | i + 1 => can .add (gsum P o inn j D i) (can .mul (P (o + (i * inn + j))) (D i))

/-- The delta s levels below the outputs. -/
def dl (wd : Nat → Nat) (N : Nat) (P X T : Nat → Nat) : Nat → Nat → Nat
  | 0, i => can .sub (lev wd N P X N i) (T i)
  | s + 1, j => if le0 (lev wd N P X (N - (s + 1)) j) then 0 else gsum P (off wd (N - s)) (wd (N - (s + 1))) j (dl wd N P X T s) (wd (N - s))

def dlt (wd : Nat → Nat) (N : Nat) (P X T : Nat → Nat) (l : Nat) : Nat → Nat := dl wd N P X T (N - l)

theorem dlt_top (wd : Nat → Nat) (N : Nat) (P X T : Nat → Nat) (i : Nat) : dlt wd N P X T N i = can .sub (lev wd N P X N i) (T i) := by
  unfold dlt; rw [Nat.sub_self]; rfl

theorem dlt_step (wd : Nat → Nat) (N : Nat) (P X T : Nat → Nat) (l : Nat) (h : l < N) (j : Nat) :
    dlt wd N P X T l j = if le0 (lev wd N P X l j) then 0 else gsum P (off wd (l + 1)) (wd l) j (dlt wd N P X T (l + 1)) (wd (l + 1)) := by
  obtain ⟨s, rfl⟩ : ∃ s, N = l + 1 + s := ⟨N - (l + 1), by omega⟩
  unfold dlt
  rw [show l + 1 + s - l = s + 1 from by omega, show l + 1 + s - (l + 1) = s from by omega]
  simp only [dl]
  rw [show l + 1 + s - (s + 1) = l from by omega, show l + 1 + s - s = l + 1 from by omega]

/-- What addGradient adds at each place, the layers below q+1 alone. -/
def gD (wd : Nat → Nat) (lv d : Nat → Nat → Nat) : Nat → Nat → Nat
  | 0, _ => 0
  | q + 1, k => if off wd (q + 1) ≤ k then
      (if k - off wd (q + 1) < wd (q + 1) * wd q then can .mul (d (q + 1) ((k - off wd (q + 1)) / wd q)) (lv q ((k - off wd (q + 1)) % wd q)) else d (q + 1) (k - off wd (q + 1) - wd (q + 1) * wd q))
    else gD wd lv d q k

theorem gD_at (wd : Nat → Nat) (lv d : Nat → Nat → Nat) (q k : Nat) (h1 : off wd (q + 1) ≤ k) (h2 : k < off wd (q + 2)) : ∀ M, q < M → gD wd lv d M k =
      (if k - off wd (q + 1) < wd (q + 1) * wd q then can .mul (d (q + 1) ((k - off wd (q + 1)) / wd q)) (lv q ((k - off wd (q + 1)) % wd q)) else d (q + 1) (k - off wd (q + 1) - wd (q + 1) * wd q))
  | 0, h => by omega
  | M + 1, h => by
    by_cases e : q = M
    · subst e
      simp only [gD]; rw [if_pos h1]
    · have hm := off_mono wd (q + 2) (M + 1) (by omega)
      simp only [gD]
      rw [if_neg (by omega)]
      exact gD_at wd lv d q k h1 h2 M (by omega)

theorem gD_weight (wd : Nat → Nat) (lv d : Nat → Nat → Nat) (N q i j : Nat) (hq : q < N) (hi : i < wd (q + 1)) (hj : j < wd q) :
    gD wd lv d N (off wd (q + 1) + (i * wd q + j)) = can .mul (d (q + 1) i) (lv q j) := by
  have hr := row_lt hi hj
  have ho := off_succ wd q
  have hm : wd (q + 1) * (wd q + 1) = wd (q + 1) * wd q + wd (q + 1) := Nat.mul_succ _ _
  rw [gD_at wd lv d q _ (by omega) (by omega) N hq]
  have e : off wd (q + 1) + (i * wd q + j) - off wd (q + 1) = i * wd q + j := by omega
  have e1 : (i * wd q + j) / wd q = i := by
    rw [Nat.add_comm, Nat.mul_comm, Nat.add_mul_div_left _ _ (by omega), Nat.div_eq_of_lt hj, Nat.zero_add]
  have e2 : (i * wd q + j) % wd q = j := by
    rw [Nat.add_comm, Nat.add_mul_mod_self_right, Nat.mod_eq_of_lt hj]
  rw [e, if_pos hr, e1, e2]

theorem gD_bias (wd : Nat → Nat) (lv d : Nat → Nat → Nat) (N q i : Nat) (hq : q < N) (hi : i < wd (q + 1)) :
    gD wd lv d N (off wd (q + 1) + wd (q + 1) * wd q + i) = d (q + 1) i := by
  have ho := off_succ wd q
  have hm : wd (q + 1) * (wd q + 1) = wd (q + 1) * wd q + wd (q + 1) := Nat.mul_succ _ _
  rw [gD_at wd lv d q _ (by omega) (by omega) N hq, if_neg (by omega)]
  congr 1; omega

/-- What has been added so far: u weights and m biases of a layer, and the layers above. -/
def Sum (G D G' : Nat → Nat) (lo u b m hi top : Nat) : Prop :=
  ∀ k, ((lo ≤ k ∧ k < lo + u) ∨ (b ≤ k ∧ k < b + m) ∨ (hi ≤ k ∧ k < top) → Eqv (G' k) (can .add (G k) (D k))) ∧
    (¬ ((lo ≤ k ∧ k < lo + u) ∨ (b ≤ k ∧ k < b + m) ∨ (hi ≤ k ∧ k < top)) → G' k = G k)

theorem Sum.start (G D : Nat → Nat) (lo b hi : Nat) : Sum G D G lo 0 b 0 hi hi := fun k => ⟨fun h => by omega, fun _ => rfl⟩

theorem Sum.weight {G D G' : Nat → Nat} {lo u b m hi top : Nat} (h : Sum G D G' lo u b m hi top) (h1 : lo + u < b) (h2 : b + m ≤ hi) (r : Nat) (p : Nat) (hp : p = lo + u)
    (hr : Eqv r (can .add (G' p) (D p))) : Sum G D (fun k => if k = p then r else G' k) lo (u + 1) b m hi top := by
  subst hp
  intro k
  by_cases e : k = lo + u
  · subst e
    refine ⟨fun _ => ?_, fun hn => absurd (by omega) hn⟩
    simp only [if_true]
    rw [(h (lo + u)).2 (by omega)] at hr
    exact hr
  · simp only [if_neg e]
    exact ⟨fun hk => (h k).1 (by omega), fun hk => (h k).2 (by omega)⟩

theorem Sum.bias {G D G' : Nat → Nat} {lo u b m hi top : Nat} (h : Sum G D G' lo u b m hi top) (h1 : lo + u ≤ b) (h2 : b + m < hi) (r : Nat) (p : Nat) (hp : p = b + m)
    (hr : Eqv r (can .add (G' p) (D p))) : Sum G D (fun k => if k = p then r else G' k) lo u b (m + 1) hi top := by
  subst hp
  intro k
  by_cases e : k = b + m
  · subst e
    refine ⟨fun _ => ?_, fun hn => absurd (by omega) hn⟩
    simp only [if_true]
    rw [(h (b + m)).2 (by omega)] at hr
    exact hr
  · simp only [if_neg e]
    exact ⟨fun hk => (h k).1 (by omega), fun hk => (h k).2 (by omega)⟩

theorem Sum.down {G D G' : Nat → Nat} {lo u b m hi top : Nat} (h : Sum G D G' lo u b m hi top) (h1 : lo + u = b) (h2 : b + m = hi) (ht : hi ≤ top) (lo' b' : Nat) : Sum G D G' lo' 0 b' 0 lo top := by
  intro k
  exact ⟨fun hk => (h k).1 (by omega), fun hk => (h k).2 (by omega)⟩

theorem Sum.rebase {G D G' : Nat → Nat} {lo b hi top : Nat} (h : Sum G D G' lo 0 b 0 hi top) (lo' b' : Nat) : Sum G D G' lo' 0 b' 0 hi top := by
  intro k
  exact ⟨fun hk => (h k).1 (by omega), fun hk => (h k).2 (by omega)⟩

/-- The worlds agree below B, but for block bg (and there too where its row is empty). -/
structure But (B ng bg : Nat) (w w' : World) : Prop where
  os : w'.os = w.os
  tape : w'.tape = w.tape
  output : w'.output = w.output
  size : w.heap.size ≤ w'.heap.size
  block : ∀ k, k < B → (k = bg → ng = 0) → w'.heap[k]? = w.heap[k]?

theorem But.of_below {B ng bg : Nat} {w w' : World} (h : Below B w w') : But B ng bg w w' := ⟨h.os, h.tape, h.output, h.size, fun k hk _ => h.block k hk⟩
theorem But.trans {B ng bg : Nat} {w w' w'' : World} (h : But B ng bg w w') (k : But B ng bg w' w'') : But B ng bg w w'' :=
  ⟨k.os.trans h.os, k.tape.trans h.tape, k.output.trans h.output, Nat.le_trans h.size k.size, fun i hi hn => (k.block i hi hn).trans (h.block i hi hn)⟩
theorem But.mono {B B' ng bg : Nat} {w w' : World} (h : But B ng bg w w') (hB : B' ≤ B) : But B' ng bg w w' := ⟨h.os, h.tape, h.output, h.size, fun k hk hn => h.block k (Nat.lt_of_lt_of_le hk hB) hn⟩
theorem But.of_only {B ng bg b : Nat} {w w' : World} (h : Only b w w') (hb : B ≤ b ∨ (b = bg ∧ 0 < ng)) : But B ng bg w w' :=
  ⟨h.os, h.tape, h.output, by rw [h.size]; exact Nat.le_refl _, fun k hk hn => h.block k (by
    rcases hb with h1 | ⟨h1, h2⟩
    · omega
    · intro e; have := hn (e.trans h1); omega)⟩
theorem But.cell {B ng bg : Nat} {w w' : World} (h : But B ng bg w w') {p : Addr} (hp : p.block < B) (hn : p.block ≠ bg) : w'.cell? p = w.cell? p :=
  World.cell?_of_block (w := w) (h.block p.block hp (fun e => absurd e hn))
theorem But.row {B ng bg b : Nat} {w w' : World} (h : But B ng bg w w') {t : TypeId} {n : Nat} {f : Nat → Value} (hr : w.rowIs b t n f) (hB : b < B) (hne : b ≠ bg) : w'.rowIs b t n f := hr.of_block (h.block b hB (fun e => absurd e hne))
theorem But.below {B B' ng bg : Nat} {w w' : World} (h : But B ng bg w w') (hB : B' ≤ B) (hn : B' ≤ bg ∨ ng = 0) : Below B' w w' :=
  ⟨h.os, h.tape, h.output, h.size, fun k hk => h.block k (by omega) (fun e => by omega)⟩

/-- Level k as a slice of just its width. -/
theorem Made.get' {w : World} {B ba L lr l : Nat} {wd : Nat → Nat} {ax : Option Addr} {bx cx : Nat} {ox : Nat} {X : Nat → Nat} {bl : Nat → Nat} {val lv : Nat → Nat → Nat} (h : Made w B ba L lr l wd (.slice ax (wd 0) cx) bl val lv)
    (hlv : ∀ i, lv 0 i = X i) (hax : 0 < wd 0 → ax = some ⟨bx, ox, none⟩) (hx : ∀ i, i < wd 0 → w.cell? ⟨bx, ox + i, none⟩ = some (.float .f64 (X i))) (bg : Nat) (hbx : bx ≠ bg) (hB : bg < B)
    (k : Nat) (hk : k < l) (hl : l ≤ lr) (hkL : k < L) :
    ∃ (al : Option Addr) (bb oo cl : Nat) (A : Nat → Nat), w.cell? ⟨ba, k, none⟩ = some (.slice al (wd k) cl) ∧ (0 < wd k → al = some ⟨bb, oo, none⟩) ∧ (∀ j, j < wd k → w.cell? ⟨bb, oo + j, none⟩ = some (.float .f64 (A j))) ∧ (∀ j, j < wd k → Eqv (A j) (lv k j)) ∧ bb ≠ bg := by
  have hc := h.row.cell hkL
  simp only [if_pos (show k < lr by omega), rowV] at hc
  by_cases e : k = 0
  · subst e
    simp only [if_pos] at hc
    exact ⟨ax, bx, ox, cx, X, hc, hax, fun j hj => hx j (by omega), fun j hj => by rw [hlv]; exact Eqv.refl _, hbx⟩
  · rw [if_neg e] at hc
    exact ⟨_, bl k, 0, _, val k, hc, fun _ => rfl, fun j hj => by rw [Nat.zero_add]; exact (h.rows k (by omega) hk).cell hj, h.eqv k (by omega) hk, by have := h.at_ k (by omega) hk; omega⟩

theorem Made.but {w w' : World} {B ba L lr l ng bg : Nat} {wd : Nat → Nat} {xv : Value} {bl : Nat → Nat} {val lv : Nat → Nat → Nat} (h : Made w B ba L lr l wd xv bl val lv) (hb : But w.heap.size ng bg w w') (hB : bg < B) : Made w' B ba L lr l wd xv bl val lv :=
  ⟨hb.row h.row h.row.lt (by have := h.base; omega), h.base, fun m h1 h2 => hb.row (h.rows m h1 h2) (h.rows m h1 h2).lt (by have := h.at_ m h1 h2; omega), h.at_, h.eqv⟩

end Go.Proofs.Qxb6603460a
