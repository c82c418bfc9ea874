import Derived.Test.Qxb6603460aZeroLaw
namespace Go.Proofs.Qxb6603460a.fnDenseLevelsZeroWeightsGiveBiases
open Go.ChangeShapes Go.WideShapes Go.ChangeAt Go.RowKit
set_option linter.unusedVariables false

theorem hid {p : Prop} (h : p) : Hid p := h

theorem drewMade {w : World} {B ba L lr l : Nat} {wd : Nat → Nat} {xv : Value} {bl : Nat → Nat} {val lv : Nat → Nat → Nat} (h : Made w B ba L lr l wd xv bl val lv) (n : Nat) : Made (w.drewN n) B ba L lr l wd xv bl val lv :=
  ⟨h.row, h.base, h.rows, h.at_, h.eqv⟩

set_option maxHeartbeats 8000000 in
set_option maxRecDepth 100000 in
theorem walk (a0 : Option Addr) (n0 c0 : Nat) (z : Nat → Int) (a1 : Option Addr) (n1 c1 : Nat) (P : Nat → Nat) (a2 : Option Addr) (n2 c2 : Nat) (X : Nat → Nat) (w : World)
    (i0 : IIn w a0 n0 c0 z) (i1 : FIn w a1 n1 c1 P) (i2 : FIn w a2 n2 c2 X) :
    Calls Try.prog 4 #[.slice a0 n0 c0, .slice a1 n1 c1, .slice a2 n2 c2] w fun e w' => e = .returned (.bool true) ∧ Below w.heap.size w w' := by
  by_cases hlen : 1048576 < (n0 : Int) + (n1 : Int) + (n2 : Int)
  · go_enter Try.func4, Try.ntmps4
    go_wp2_with fail
    refine (bytes17_no a0 n0 c0 a1 n1 c1 a2 n2 c2 w hlen).mono ?_
    rintro e w' ⟨rfl, rfl⟩
    go_wp2
    go_ret
    exact ⟨rfl, Below.refl _ _⟩
  have hlen' : (n0 : Int) + (n1 : Int) + (n2 : Int) ≤ 1048576 := by omega
  go_enter Try.func4, Try.ntmps4
  go_wp2_with fail
  refine (bytes17_yes a0 n0 c0 a1 n1 c1 a2 n2 c2 w hlen').mono ?_
  rintro e w' ⟨rfl, rfl⟩
  by_cases t0 : 131072 < (n0 : Int)
  · go_wp2
    go_ret
    exact ⟨rfl, Below.refl _ _⟩
  have t0' : decide (131072 < (n0 : Int)) = false := decide_eq_false t0
  by_cases t1 : 131072 < (n1 : Int)
  · go_wp2
    go_ret
    exact ⟨rfl, Below.refl _ _⟩
  have t1' : decide (131072 < (n1 : Int)) = false := decide_eq_false t1
  by_cases t2 : 131072 < (n2 : Int)
  · go_wp2
    go_ret
    exact ⟨rfl, Below.refl _ _⟩
  have t2' : decide (131072 < (n2 : Int)) = false := decide_eq_false t2
  by_cases t3 : 1048576 < 8 * ((n0 : Int) + (n1 : Int) + (n2 : Int))
  · go_wp2
    go_ret
    exact ⟨rfl, Below.refl _ _⟩
  have t3' : decide (1048576 < 8 * ((n0 : Int) + (n1 : Int) + (n2 : Int))) = false := decide_eq_false t3
  go_wp2_with fail
  refine (total_any a0 n0 c0 n1 z _ i0 (by omega) (by omega)).mono ?_
  rintro e w'' ⟨tot, ok, rfl, rfl, hgood⟩
  cases ok with
  | false =>
    go_wp2
    go_ret
    exact ⟨rfl, Below.refl _ _⟩
  | true =>
  obtain ⟨hg, rfl⟩ := hgood rfl
  clear hgood
  obtain ⟨N, hN⟩ : ∃ N, n0 = N + 1 := ⟨n0 - 1, by have := hg.n1; omega⟩
  subst hN
  obtain ⟨g1, g2, g3, g4, g5⟩ := hg
  generalize hwd : toW z = wd at *
  clear hwd
  have hcw : ∃ b o, a0 = some ⟨b, o, none⟩ ∧ ∀ i, i < N + 1 → w''.cell? ⟨b, o + i, none⟩ = some (.int .i64 (wd i : Int)) := by
    rcases i0.at_ with h | h | ⟨b, o, h, h2⟩
    · exact absurd (i0.nil h) (by omega)
    · omega
    · exact ⟨b, o, h, fun i hi => by rw [← g3 i hi]; exact h2 i hi⟩
  have i0' : IIn w'' a0 (N + 1) c0 (fun j => (wd j : Int)) := by
    obtain ⟨b, o, h, h2⟩ := hcw
    exact ⟨i0.le, .inr (.inr ⟨b, o, h, h2⟩), i0.nil⟩
  obtain ⟨b0, o0, h0, hcw0⟩ := hcw
  subst h0
  have hcz := hcw0 0 (by omega)
  simp only [Nat.add_zero] at hcz
  have hcw0' := hcw0
  clear i0 g3 hcw0
  by_cases t4 : (n2 : Int) < (wd 0 : Int)
  · have t4n : n2 < wd 0 := by omega
    go_wp2
    go_ret
    exact ⟨rfl, Below.refl _ _⟩
  have t4' : decide ((n2 : Int) < (wd 0 : Int)) = false := decide_eq_false t4
  have t4n : decide (n2 < wd 0) = false := decide_eq_false (by omega)
  have hcz0 := hcw0'
  go_wp2_with fail
  clear t4' t4n t3' t2' t1' t0'
  refine (offs_any b0 o0 N c0 wd _ hcw0' (by omega) g4 (by omega)).mono ?_
  rintro e wO ⟨rfl, rowO, belO⟩
  have i1O := i1.below belO
  have i2O := i2.below belO
  have i0O : IIn wO (some ⟨b0, o0, none⟩) (N + 1) c0 (fun j => (wd j : Int)) := ⟨i0'.le, .inr (.inr ⟨b0, o0, rfl, fun i hi => (belO.cell (cell_lt (hcw0' i hi))).trans (hcw0' i hi)⟩), i0'.nil⟩
  have cW : ∀ i, i < N + 1 → wO.cell? ⟨b0, o0 + i, none⟩ = some (.int .i64 (wd i : Int)) := fun i hi => (belO.cell (cell_lt (hcw0' i hi))).trans (hcw0' i hi)
  have hP : ∃ bp op, (0 < n1 → a1 = some ⟨bp, op, none⟩) ∧ ∀ i, i < n1 → wO.cell? ⟨bp, op + i, none⟩ = some (.float .f64 (P i)) := by
    rcases i1O.at_ with h | h | ⟨b, o, h, h2⟩
    · exact ⟨0, 0, fun h3 => by have := i1O.nil h; omega, fun i hi => by have := i1O.nil h; omega⟩
    · exact ⟨0, 0, fun h3 => by omega, fun i hi => by omega⟩
    · exact ⟨b, o, fun _ => h, h2⟩
  have hX : ∃ bx ox, (0 < n2 → a2 = some ⟨bx, ox, none⟩) ∧ ∀ i, i < n2 → wO.cell? ⟨bx, ox + i, none⟩ = some (.float .f64 (X i)) := by
    rcases i2O.at_ with h | h | ⟨b, o, h, h2⟩
    · exact ⟨0, 0, fun h3 => by have := i2O.nil h; omega, fun i hi => by have := i2O.nil h; omega⟩
    · exact ⟨0, 0, fun h3 => by omega, fun i hi => by omega⟩
    · exact ⟨b, o, fun _ => h, h2⟩
  obtain ⟨bp, op, hap, hcp⟩ := hP
  obtain ⟨bx, ox, hax, hcx⟩ := hX
  have hoz : wO.rowIs w''.heap.size 3 (N + 2) (fun l => .int .i64 (off wd l : Nat)) := rowO
  clear hcz hcz0 hcw0' i0' i1 i2 rowO
  go_wp2
  go_loopw [11] (fun i wr => ∃ k : Nat, k ≤ N ∧ i = .int .i64 ((k : Int) + 1) ∧ (∀ l, l < k → ∀ i, i < wd (l + 1) → isFin (P (off wd (l + 1) + wd (l + 1) * wd l + i))) ∧ ∃ n, wr = wO.drewN n) (fun i _ => N + 1 - (intOf i).toNat)
  case atStart => exact ⟨0, Nat.zero_le _, rfl, fun l h => by omega, 0, rfl⟩
  case round =>
    obtain ⟨k, hk, rfl, hfin, dk, hwk⟩ := hrel
    have HWK : Hid (wr = wO.drewN dk) := hwk
    have HF := hid hfin
    clear hfin
    by_cases hlt : k < N
    · have hoffk : off wd (k + 2) ≤ n1 := Nat.le_trans (off_mono wd (k + 2) (N + 1) (by omega)) g5
      have HO : Hid (off wd (k + 2) = off wd (k + 1) + wd (k + 1) * (wd k + 1)) := off_succ wd k
      have HM : Hid (wd (k + 1) * wd k + wd (k + 1) = wd (k + 1) * (wd k + 1)) := (Nat.mul_succ _ _).symm
      have hbnd : off wd (k + 1) + wd (k + 1) * wd k + wd (k + 1) ≤ n1 := by have := HO.out; have := HM.out; omega
      have hq0 : 0 ≤ (wd (k + 1) : Int) * (wd k : Int) := by rw [mul_cast']; omega
      have hq1 : (wd (k + 1) : Int) * (wd k : Int) ≤ 131072 := by rw [mul_cast']; omega
      have c0' : wr.cell? ⟨b0, o0 + k, none⟩ = some (.int .i64 (wd k : Int)) := by rw [hwk]; exact cW k (by omega)
      have c1' : wr.cell? ⟨b0, o0 + (k + 1), none⟩ = some (.int .i64 (wd (k + 1) : Int)) := by rw [hwk]; exact cW (k + 1) (by omega)
      have hi0 : (k : Int) < (N : Int) + 1 := by omega
      have hi1 : (k : Int) + 1 < (N : Int) + 1 := by omega
      have hwk0 := g4 k (by omega)
      have hwk1 := g4 (k + 1) (by omega)
      have hle : (k : Int) + 1 ≤ (N : Int) := by omega
      clear hwk
      go_wp2
      clear c0' c1' hi0 hle
      go_loopw [14] (fun i wi => ∃ j : Nat, j ≤ wd (k + 1) ∧ i = .int .i64 (j : Int) ∧ (∀ i, i < j → isFin (P (off wd (k + 1) + wd (k + 1) * wd k + i))) ∧ ∃ n, wi = wO.drewN n) (fun i _ => wd (k + 1) - (intOf i).toNat)
      case atStart => exact ⟨0, Nat.zero_le _, rfl, fun i h => by omega, dk, HWK.out⟩
      case round =>
        clear HWK
        obtain ⟨j, hj, rfl, hfj, dj, hwj⟩ := hrel
        have HWJ : Hid (wr = wO.drewN dj) := hwj
        have HFJ := hid hfj
        clear hfj
        by_cases hjl : j < wd (k + 1)
        · have hap' := hap (by omega)
          subst hap'
          have hidx : ((off wd (k + 1) : Nat) + (wd (k + 1) : Int) * (wd k : Int) + (j : Int)).toNat = off wd (k + 1) + wd (k + 1) * wd k + j := by rw [mul_cast']; omega
          have hE : ((off wd (k + 1) : Nat) : Int) + (wd (k + 1) : Int) * (wd k : Int) + (j : Int) < (n1 : Int) := by rw [mul_cast']; omega
          have cP : wr.cell? ⟨bp, op + (off wd (k + 1) + wd (k + 1) * wd k + j), none⟩ = some (.float .f64 (P (off wd (k + 1) + wd (k + 1) * wd k + j))) := by rw [hwj]; exact hcp _ (by omega)
          have cO : wr.cell? ⟨w''.heap.size, k + 1, none⟩ = some (.int .i64 (off wd (k + 1) : Nat)) := by rw [hwj]; exact hoz.cell (i := k + 1) (by omega)
          have hi2 : (k : Int) + 1 < (N : Int) + 2 := by omega
          have hob : off wd (k + 1) ≤ 131072 := by omega
          clear hwj
          go_wp2_with fail
          clear hidx
          refine (finite_any _ _).mono ?_
          rintro e wF ⟨bb, rfl, ⟨dF, hwF⟩, hfb⟩
          have HWF := hid hwF
          clear hwF
          cases bb with
          | false =>
            go_wp2
            go_ret
            exact ⟨rfl, by rw [HWF.out, HWJ.out]; exact below_drewN (below_drewN belO _) _⟩
          | true =>
            have HFB := hid (hfb rfl)
            clear hfb
            go_wp2
            go_roundw
            case rel =>
              refine ⟨j + 1, by omega, by go_num, fun i hi => ?_, _, by rw [HWF.out, HWJ.out]; exact World.drewN_drewN _ _ _⟩
              by_cases e : i = j
              · subst e; exact HFB.out
              · exact HFJ.out i (by omega)
            case measure => simp [intOf]; omega
        · have hex : decide ((j : Int) < (wd (k + 1) : Int)) = false := decide_eq_false (by omega)
          have hexn : decide (j < wd (k + 1)) = false := decide_eq_false (by omega)
          clear hwj
          go_wp2
          go_roundw
          case rel =>
            refine ⟨k + 1, by omega, by go_num, fun l hl i hi => ?_, dj, HWJ.out⟩
            by_cases e : l = k
            · subst e; exact HFJ.out i (by omega)
            · exact HF.out l (by omega) i hi
          case measure => simp [intOf]; omega
    · have hNk : N = k := by omega
      subst hNk
      have hex : decide ((N : Int) + 1 ≤ (N : Int)) = false := decide_eq_false (by omega)
      clear hwk hlt hk
      go_wp2
      clear hex
      go_loopw [15] (fun i wi => ∃ j : Nat, j ≤ wd 0 ∧ i = .int .i64 (j : Int) ∧ (∀ i, i < j → isFin (X i)) ∧ ∃ n, wi = wO.drewN n) (fun i _ => wd 0 - (intOf i).toNat)
      case atStart => exact ⟨0, Nat.zero_le _, rfl, fun i h => by omega, dk, HWK.out⟩
      case round =>
        clear HWK
        obtain ⟨j, hj, rfl, hfj, dj, hwj⟩ := hrel
        have HWJ : Hid (wr = wO.drewN dj) := hwj
        have HFJ := hid hfj
        clear hfj
        have cw0 : wr.cell? ⟨b0, o0, none⟩ = some (.int .i64 (wd 0 : Int)) := by rw [hwj]; exact cW 0 (by omega)
        have hN0 : (0 : Int) < (N : Int) + 1 := by omega
        have hwd0 := g4 0 (by omega)
        by_cases hjl : j < wd 0
        · have hax' := hax (by omega)
          subst hax'
          have cx : wr.cell? ⟨bx, ox + j, none⟩ = some (.float .f64 (X j)) := by rw [hwj]; exact hcx j (by omega)
          have hjI : (j : Int) < (n2 : Int) := by omega
          have hjw : (j : Int) < (wd 0 : Int) := by omega
          clear hwj
          go_wp2_with fail
          refine (finite_any _ _).mono ?_
          rintro e wF ⟨bb, rfl, ⟨dF, hwF⟩, hfb⟩
          have HWF := hid hwF
          clear hwF
          cases bb with
          | false =>
            go_wp2
            go_ret
            exact ⟨rfl, by rw [HWF.out, HWJ.out]; exact below_drewN (below_drewN belO _) _⟩
          | true =>
            have HFB := hid (hfb rfl)
            clear hfb
            go_wp2
            go_roundw
            case rel =>
              refine ⟨j + 1, by omega, by go_num, fun i hi => ?_, _, by rw [HWF.out, HWJ.out]; exact World.drewN_drewN _ _ _⟩
              by_cases e : i = j
              · subst e; exact HFB.out
              · exact HFJ.out i (by omega)
            case measure => simp [intOf]; omega
        · have hjw : j = wd 0 := by omega
          subst hjw
          have i0R : IIn wr (some ⟨b0, o0, none⟩) (N + 1) c0 (fun j => (wd j : Int)) := by rw [hwj]; exact ⟨i0O.le, i0O.at_, i0O.nil⟩
          have i1R : FIn wr a1 n1 c1 P := by rw [hwj]; exact ⟨i1O.le, i1O.at_, i1O.nil⟩
          have i2R : FIn wr a2 n2 c2 X := by rw [hwj]; exact ⟨i2O.le, i2O.at_, i2O.nil⟩
          have hozR : wr.rowIs w''.heap.size 3 (N + 2) (fun l => .int .i64 (off wd l : Nat)) := by rw [hwj]; exact hoz
          have belR : Below w''.heap.size w'' wr := by rw [hwj]; exact below_drewN belO _
          clear hwj HWJ hoz belO i0O i1O i2O hcp hcx cW hap hax
          go_wp2_with fail
          refine (cloneI_any _ (N + 1) c0 (fun j => (wd j : Int)) _ i0R (by omega) (by omega)).mono ?_
          rintro e wA ⟨rfl, rowW, belA⟩
          go_wp2_with fail
          refine (cloneF_any a1 n1 c1 P _ (i1R.below belA) (by omega)).mono ?_
          rintro e wB ⟨aP, bPc, rfl, clP⟩
          have belB : Below wr.heap.size wr wB := belA.trans (clP.bel.mono belA.size)
          go_wp2_with fail
          refine (cloneF_any a2 n2 c2 X _ (i2R.below belB) (by omega)).mono ?_
          rintro e wC ⟨aX, bX, rfl, clX⟩
          have belC : Below w''.heap.size w'' wC := belR.trans ((belB.trans (clX.bel.mono belB.size)).mono belR.size)
          have rowP := fun h => rowIs_below (clP.row h) clX.bel (clP.row h).lt
          have rowW1 := rowIs_below (rowIs_below rowW clP.bel rowW.lt) clX.bel (Nat.lt_of_lt_of_le rowW.lt clP.bel.size)
          have rowO1 := rowIs_below (rowIs_below hozR belB hozR.lt) clX.bel (Nat.lt_of_lt_of_le hozR.lt belB.size)
          have rowX := clX.row
          have atX := clX.at_
          have atP0 := clP.at_
          have hPex : ∃ b, (0 < n1 → aP = some ⟨b, 0, none⟩) ∧ (0 < n1 → wC.rowIs b 32 n1 (fun i => .float .f64 (P i))) ∧ w''.heap.size ≠ b ∧ wr.heap.size ≠ b ∧ (0 < n2 → bX ≠ b) ∧ w''.heap.size ≤ b := by
            have s1 := hozR.lt
            have s2 := belA.size
            have s3 := clP.base
            have s4 := rowW.lt
            have s5 := clP.bel.size
            have s6 := clX.bel.size
            by_cases h : 0 < n1
            · refine ⟨bPc, atP0, rowP, by omega, by omega, fun h2 => ?_, by omega⟩
              have h3 := (clP.row h).lt
              have h4 := clX.base
              omega
            · refine ⟨wC.heap.size + 1, fun h1 => absurd h1 h, fun h1 => absurd h1 h, by omega, by omega, fun h2 => ?_, by omega⟩
              have h3 := (clX.row h2).lt
              omega
          clear atP0 rowP i0R i1R i2R clP clX rowW belA belB belR hozR
          obtain ⟨bP, atP, rowP, neO, neW, neX, hBP⟩ := hPex
          generalize wr.heap.size = bW at *
          have hst := fun wx a m b => run_storeF (P := Try.prog) wx a m b
          go_wp2
          go_loopw [16] (fun i wr => ∃ k : Nat, k ≤ N ∧ i = .int .i64 ((k : Int) + 1) ∧ (∃ f : Nat → Nat, (0 < n1 → wr.rowIs bP 32 n1 (fun i => .float .f64 (f i))) ∧ (∀ l, l < k → ∀ t, t < wd (l + 1) * wd l → f (off wd (l + 1) + t) = 0) ∧ (∀ l, l < N → ∀ i, i < wd (l + 1) → f (off wd (l + 1) + wd (l + 1) * wd l + i) = P (off wd (l + 1) + wd (l + 1) * wd l + i))) ∧ Only bP wC wr) (fun i _ => N + 1 - (intOf i).toNat)
          case atStart => exact ⟨0, Nat.zero_le _, rfl, ⟨P, rowP, fun l h => by omega, fun l _ i _ => rfl⟩, Only.refl _ _⟩
          case round =>
            clear rowP
            obtain ⟨k, hk, rfl, ⟨f, hrow, hz, hbias⟩, honly⟩ := hrel
            have HZ := hid hz
            have HBI := hid hbias
            clear hz hbias
            by_cases hlt : k < N
            · have hoffk : off wd (k + 2) ≤ n1 := Nat.le_trans (off_mono wd (k + 2) (N + 1) (by omega)) g5
              have HO : Hid (off wd (k + 2) = off wd (k + 1) + wd (k + 1) * (wd k + 1)) := off_succ wd k
              have HM : Hid (wd (k + 1) * wd k + wd (k + 1) = wd (k + 1) * (wd k + 1)) := (Nat.mul_succ _ _).symm
              have hbnd : off wd (k + 1) + wd (k + 1) * wd k + wd (k + 1) ≤ n1 := by have := HO.out; have := HM.out; omega
              have hq0 : 0 ≤ (wd (k + 1) : Int) * (wd k : Int) := by rw [mul_cast']; omega
              have hq1 : (wd (k + 1) : Int) * (wd k : Int) ≤ 131072 := by rw [mul_cast']; omega
              have c0' : wr.cell? ⟨bW, k, none⟩ = some (.int .i64 (wd k : Int)) := (honly.cell (by exact neW)).trans (rowW1.cell (i := k) (by omega))
              have c1' : wr.cell? ⟨bW, k + 1, none⟩ = some (.int .i64 (wd (k + 1) : Int)) := (honly.cell (by exact neW)).trans (rowW1.cell (i := k + 1) (by omega))
              have cO : wr.cell? ⟨w''.heap.size, k + 1, none⟩ = some (.int .i64 (off wd (k + 1) : Nat)) := (honly.cell (by exact neO)).trans (rowO1.cell (i := k + 1) (by omega))
              have hi0 : (k : Int) < (N : Int) + 1 := by omega
              have hi1 : (k : Int) + 1 < (N : Int) + 1 := by omega
              have hi2 : (k : Int) + 1 < (N : Int) + 2 := by omega
              have hle : (k : Int) + 1 ≤ (N : Int) := by omega
              have hob : off wd (k + 1) ≤ 131072 := by omega
              go_wp2
              clear c0' c1' cO hi0 hi2 hle
              go_loopw [20] (fun i wi => ∃ c : Nat, off wd (k + 1) ≤ c ∧ c ≤ off wd (k + 1) + wd (k + 1) * wd k ∧ i = .int .i64 (c : Int) ∧ (∃ f : Nat → Nat, (0 < n1 → wi.rowIs bP 32 n1 (fun i => .float .f64 (f i))) ∧ (∀ l, l < k → ∀ t, t < wd (l + 1) * wd l → f (off wd (l + 1) + t) = 0) ∧ (∀ t, off wd (k + 1) + t < c → f (off wd (k + 1) + t) = 0) ∧ (∀ l, l < N → ∀ i, i < wd (l + 1) → f (off wd (l + 1) + wd (l + 1) * wd l + i) = P (off wd (l + 1) + wd (l + 1) * wd l + i))) ∧ Only bP wC wi) (fun i _ => off wd (k + 1) + wd (k + 1) * wd k - (intOf i).toNat)
              case atStart => exact ⟨off wd (k + 1), Nat.le_refl _, by omega, rfl, ⟨f, hrow, HZ.out, fun t h => by omega, HBI.out⟩, honly⟩
              case round =>
                clear hrow HZ HBI honly
                obtain ⟨c, hc1, hc2, rfl, ⟨g, hrow, hz, hzc, hbias⟩, honly⟩ := hrel
                have HZ := hid hz
                have HZC := hid hzc
                have HBI := hid hbias
                clear hz hbias hzc
                by_cases hcl : c < off wd (k + 1) + wd (k + 1) * wd k
                · have hr := hrow (by omega)
                  have hap' := atP (by omega)
                  subst hap'
                  have cP := hr.cell (i := c) (by omega)
                  have fP := hr.frozen c
                  have hcI : (c : Int) < ((off wd (k + 1) : Nat) : Int) + (wd (k + 1) : Int) * (wd k : Int) := by rw [mul_cast']; omega
                  have hcn : (c : Int) < (n1 : Int) := by omega
                  have HR : Hid (∀ v : Nat, v = 0 → ((wr.setCell ⟨bP, c, none⟩ (.float .f64 v)).rowIs bP 32 n1 (fun i => .float .f64 (if i = c then 0 else g i)))) := by
                    rintro v rfl
                    exact (hr.set c _).congr fun i hi => by by_cases e : i = c <;> simp [e]
                  clear hrow hr
                  go_wp2
                  go_roundw
                  case rel =>
                    refine ⟨c + 1, by omega, by omega, by go_num, ⟨fun i => if i = c then 0 else g i, fun _ => HR.out 0 rfl, fun l hl t ht => ?_, fun t ht => ?_, fun l hl i hi => ?_⟩, honly.setCell c _⟩
                    · have h1 := HZ.out l hl t ht
                      show (if off wd (l + 1) + t = c then 0 else g (off wd (l + 1) + t)) = 0
                      rw [h1]; simp
                    · show (if off wd (k + 1) + t = c then 0 else g (off wd (k + 1) + t)) = 0
                      by_cases e : off wd (k + 1) + t = c
                      · rw [if_pos e]
                      · rw [if_neg e]; exact HZC.out t (by omega)
                    · have h1 := HBI.out l hl i hi
                      have hne : off wd (l + 1) + wd (l + 1) * wd l + i ≠ c := by
                        intro e
                        have ho : off wd (l + 1 + 1) = off wd (l + 1) + wd (l + 1) * (wd l + 1) := off_succ wd l
                        have hs : wd (l + 1) * (wd l + 1) = wd (l + 1) * wd l + wd (l + 1) := Nat.mul_succ _ _
                        rcases Nat.lt_trichotomy l k with h | h | h
                        · have := off_mono wd (l + 1 + 1) (k + 1) (by omega); omega
                        · subst h; omega
                        · have h2 := off_mono wd (k + 2) (l + 1) (by omega)
                          have h3 := HO.out
                          have h4 := HM.out
                          omega
                      show (if off wd (l + 1) + wd (l + 1) * wd l + i = c then 0 else g (off wd (l + 1) + wd (l + 1) * wd l + i)) = _
                      rw [if_neg hne]; exact h1
                  case measure => simp [intOf]; omega
                · have hcI : decide ((c : Int) < ((off wd (k + 1) : Nat) : Int) + (wd (k + 1) : Int) * (wd k : Int)) = false := decide_eq_false (by rw [mul_cast']; omega)
                  go_wp2
                  go_roundw
                  case rel =>
                    refine ⟨k + 1, by omega, by go_num, ⟨g, hrow, fun l hl t ht => ?_, HBI.out⟩, honly⟩
                    by_cases e : l = k
                    · subst e; exact HZC.out t (by omega)
                    · exact HZ.out l (by omega) t ht
                  case measure => simp [intOf]; omega
            · have hNk : N = k := by omega
              subst hNk
              have hex : decide ((N : Int) + 1 ≤ (N : Int)) = false := decide_eq_false (by omega)
              clear hlt hk
              go_wp2_with fail
              clear hex
              have rowW2 := honly.row rowW1 neW
              have rowO2 := honly.row rowO1 neO
              have rowX2 : 0 < n2 → wr.rowIs bX 32 n2 (fun i => .float .f64 (X i)) := fun h => honly.row (rowX h) (neX h)
              have belW : Below w''.heap.size w'' wr := belC.trans (honly.below hBP)
              refine (zzLev_any bW 0 N (N + 1) wd aP bP 0 n1 n1 f aX bX 0 n2 n2 X wr (fun j hj => by rw [Nat.zero_add]; exact rowW2.cell hj) (by omega) g4 g5 (Nat.le_refl _) (by omega) atP (fun i hi => by rw [Nat.zero_add]; exact (hrow (by omega)).cell hi) (by omega) atX (fun i hi => by rw [Nat.zero_add]; exact (rowX2 (by omega)).cell hi)).mono ?_
              rintro e wG ⟨ba, bla, vala, rfl, madeA, belG⟩
              have rowW3 := rowIs_below rowW2 belG rowW2.lt
              have rowO3 := rowIs_below rowO2 belG rowO2.lt
              have rowX3 := fun h => rowIs_below (rowX2 h) belG (rowX2 h).lt
              have rowP3 := fun h => rowIs_below (hrow h) belG (hrow h).lt
              have belG' := belW.trans (belG.mono belW.size)
              have HL : Hid (∀ l, l < N → ∀ i, i < wd (l + 1) → NEq (lev wd N f X (l + 1) i) (act N (l + 1) (f (off wd (l + 1) + wd (l + 1) * wd l + i)))) :=
                lev_bias (fun l hl t ht => HZ.out l hl t ht) (fun l hl i hi => by rw [HBI.out l hl i hi]; exact HF.out l hl i hi) (fun i hi => HFJ.out i hi)
              clear rowW2 rowO2 rowX2 hrow belG belW HZ HBI honly rowW1 rowO1 rowX belC HF HFJ
              have hnil := fun (wx : World) (a : Option Addr) (n c : Nat) => Lib.run_eql_slice_nil (P := Try.prog) wx 23 32 a n c 0 0 Try.underlying23
              have hA0 : wG.cell? ⟨ba, 0, none⟩ = some (.slice aX n2 n2) := by have h := madeA.row.cell (i := 0) (by omega); simpa [rowV] using h
              have hN0 : (0 : Int) < (N : Int) + 1 := by omega
              have cX : ∀ i, i < n2 → wG.cell? ⟨bX, 0 + i, none⟩ = some (.float .f64 (X i)) := fun i hi => by rw [Nat.zero_add]; exact (rowX3 (by omega)).cell hi
              go_wp2_with fail
              refine (sameLevel_true aX bX 0 n2 n2 X aX bX 0 n2 X _ (by omega) atX atX cX cX (fun i _ => Eqv.refl _)).mono ?_
              rintro e wS ⟨rfl, dS, hwS⟩
              have madeS := drewMade madeA dS
              rw [← hwS] at madeS
              have rowWS : wS.rowIs bW 3 (N + 1) (fun i => .int .i64 (wd i : Int)) := by rw [hwS]; exact rowW3
              have rowOS : wS.rowIs w''.heap.size 3 (N + 2) (fun l => .int .i64 (off wd l : Nat)) := by rw [hwS]; exact rowO3
              have rowPS : 0 < n1 → wS.rowIs bP 32 n1 (fun i => .float .f64 (f i)) := fun h => by rw [hwS]; exact rowP3 h
              have belS : Below w''.heap.size w'' wS := by rw [hwS]; exact below_drewN belG' _
              clear hwS madeA rowW3 rowO3 rowP3 rowX3 belG' hA0 cX
              go_wp2
              go_loop [22] (fun i => ∃ k : Nat, k ≤ N ∧ i = .int .i64 ((k : Int) + 1)) (fun i => N + 1 - (intOf i).toNat)
              case atStart => exact ⟨0, Nat.zero_le _, rfl⟩
              case round =>
                obtain ⟨k, hk, rfl⟩ := hrel
                by_cases hlt : k < N
                · have hoffk : off wd (k + 2) ≤ n1 := Nat.le_trans (off_mono wd (k + 2) (N + 1) (by omega)) g5
                  have HO : Hid (off wd (k + 2) = off wd (k + 1) + wd (k + 1) * (wd k + 1)) := off_succ wd k
                  have HM : Hid (wd (k + 1) * wd k + wd (k + 1) = wd (k + 1) * (wd k + 1)) := (Nat.mul_succ _ _).symm
                  have hbnd : off wd (k + 1) + wd (k + 1) * wd k + wd (k + 1) ≤ n1 := by have := HO.out; have := HM.out; omega
                  have hq0 : 0 ≤ (wd (k + 1) : Int) * (wd k : Int) := by rw [mul_cast']; omega
                  have hq1 : (wd (k + 1) : Int) * (wd k : Int) ≤ 131072 := by rw [mul_cast']; omega
                  have c0' : wS.cell? ⟨bW, k, none⟩ = some (.int .i64 (wd k : Int)) := rowWS.cell (i := k) (by omega)
                  have c1' : wS.cell? ⟨bW, k + 1, none⟩ = some (.int .i64 (wd (k + 1) : Int)) := rowWS.cell (i := k + 1) (by omega)
                  have cA : wS.cell? ⟨ba, k + 1, none⟩ = some (.slice (some ⟨bla (k + 1), 0, none⟩) (wd (k + 1)) (wd (k + 1))) := by
                    have h := madeS.row.cell (i := k + 1) (by omega); simpa [rowV, hlt] using h
                  have hi0 : (k : Int) < (N : Int) + 1 := by omega
                  have hi1 : (k : Int) + 1 < (N : Int) + 1 := by omega
                  have hle : (k : Int) + 1 ≤ (N : Int) := by omega
                  have hwk1 := g4 (k + 1) (by omega)
                  go_wp2
                  clear c0' c1' hi0 hle
                  go_loop [25] (fun i => ∃ j : Nat, j ≤ wd (k + 1) ∧ i = .int .i64 (j : Int)) (fun i => wd (k + 1) - (intOf i).toNat)
                  case atStart => exact ⟨0, Nat.zero_le _, rfl⟩
                  case round =>
                    obtain ⟨j, hj, rfl⟩ := hrel
                    by_cases hjl : j < wd (k + 1)
                    · have hap' := atP (by omega)
                      subst hap'
                      have hidx : ((off wd (k + 1) : Nat) + (wd (k + 1) : Int) * (wd k : Int) + (j : Int)).toNat = off wd (k + 1) + wd (k + 1) * wd k + j := by rw [mul_cast']; omega
                      have hE : ((off wd (k + 1) : Nat) : Int) + (wd (k + 1) : Int) * (wd k : Int) + (j : Int) < (n1 : Int) := by rw [mul_cast']; omega
                      have cP : wS.cell? ⟨bP, off wd (k + 1) + wd (k + 1) * wd k + j, none⟩ = some (.float .f64 (f (off wd (k + 1) + wd (k + 1) * wd k + j))) := (rowPS (by omega)).cell (by omega)
                      have cO : wS.cell? ⟨w''.heap.size, k + 1, none⟩ = some (.int .i64 (off wd (k + 1) : Nat)) := rowOS.cell (i := k + 1) (by omega)
                      have vA : wS.cell? ⟨bla (k + 1), j, none⟩ = some (.float .f64 (vala (k + 1) j)) := (madeS.rows (k + 1) (by omega) (by omega)).cell hjl
                      have hi2 : (k : Int) + 1 < (N : Int) + 2 := by omega
                      have hob : off wd (k + 1) ≤ 131072 := by omega
                      have hjI : (j : Int) < (wd (k + 1) : Int) := by omega
                      have eA := (madeS.eqv (k + 1) (by omega) (by omega) j hjl).neq.trans (HL.out k hlt j hjl)
                      by_cases hkn : k + 1 < N
                      · have hknI : (k : Int) + 1 < (N : Int) := by omega
                        rw [act, if_pos hkn] at eA
                        have HE : Hid (∀ r, Eqv r (relu (f (off wd (k + 1) + wd (k + 1) * wd k + j))) → NEq (vala (k + 1) j) r) := fun r hr => eA.trans hr.neq.symm
                        clear eA
                        go_wp2_with fail
                        clear hidx
                        refine (relu_any _ _).mono ?_
                        rintro e wR ⟨r, rfl, hr, rfl⟩
                        go_wp2_with fail
                        refine (eqF_true _ _ (HE.out r hr) _).mono ?_
                        rintro e wT ⟨rfl, rfl⟩
                        go_wp2
                        go_round
                        case rel => exact ⟨j + 1, by omega, by go_num⟩
                        case measure => simp [intOf]; omega
                      · have hknI : decide ((k : Int) + 1 < (N : Int)) = false := decide_eq_false (by omega)
                        rw [act, if_neg hkn] at eA
                        have HE : Hid (NEq (vala (k + 1) j) (f (off wd (k + 1) + wd (k + 1) * wd k + j))) := eA
                        clear eA
                        go_wp2_with fail
                        clear hidx
                        refine (eqF_true _ _ HE.out _).mono ?_
                        rintro e wT ⟨rfl, rfl⟩
                        go_wp2
                        go_round
                        case rel => exact ⟨j + 1, by omega, by go_num⟩
                        case measure => simp [intOf]; omega
                    · have hex : decide ((j : Int) < (wd (k + 1) : Int)) = false := decide_eq_false (by omega)
                      have hexn : decide (j < wd (k + 1)) = false := decide_eq_false (by omega)
                      go_wp2
                      go_round
                      case rel => exact ⟨k + 1, by omega, by go_num⟩
                      case measure => simp [intOf]; omega
                · have hNk : N = k := by omega
                  subst hNk
                  have hex : decide ((N : Int) + 1 ≤ (N : Int)) = false := decide_eq_false (by omega)
                  clear hlt hk
                  go_wp2
                  go_ret
                  exact ⟨rfl, belS⟩

end Go.Proofs.Qxb6603460a.fnDenseLevelsZeroWeightsGiveBiases
