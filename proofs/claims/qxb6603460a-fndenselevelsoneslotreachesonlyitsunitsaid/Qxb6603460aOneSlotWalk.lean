import Derived.Test.Qxb6603460aOneLaw
import Derived.Deep.CutRange
namespace Go.Proofs.Qxb6603460a.fnDenseLevelsOneSlotReachesOnlyItsUnit
open Go.ChangeShapes Go.WideShapes Go.ChangeAt Go.RowKit
set_option linter.unusedVariables false

/-- What holds of the layer and the unit that the slot feeds. -/
def OneCut (wd : Nat → Nat) (N : Nat) (P Q X : Nat → Nat) (wz : World) (ys us : Value) (wx : World) : Prop :=
  ∃ y : Nat, ∃ U : Int, ys = .int .i64 (y : Int) ∧ us = .int .i64 U ∧ wx = wz ∧ 1 ≤ y ∧ y ≤ N + 1 ∧ (∀ m, m < y → m < N + 1 → ∀ j, (m = 0 ∨ j < wd m) → Eqv (lev wd N P X m j) (lev wd N Q X m j)) ∧ (y < N + 1 → ∀ i, i < wd y → (i : Int) ≠ U → Eqv (lev wd N P X y i) (lev wd N Q X y i))

set_option maxHeartbeats 8000000 in
set_option maxRecDepth 100000 in
theorem walk (a0 : Option Addr) (n0 c0 : Nat) (z : Nat → Int) (a1 : Option Addr) (n1 c1 : Nat) (P : Nat → Nat) (a2 : Option Addr) (n2 c2 : Nat) (X : Nat → Nat) (p : Int) (v : Nat) (w : World)
    (i0 : IIn w a0 n0 c0 z) (i1 : FIn w a1 n1 c1 P) (i2 : FIn w a2 n2 c2 X) :
    Calls Try.prog 5 #[.slice a0 n0 c0, .slice a1 n1 c1, .slice a2 n2 c2, .int .i64 p, .float .f64 v] w fun e w' => e = .returned (.bool true) ∧ Below w.heap.size w w' := by
  by_cases hlen : 1048576 < (n0 : Int) + (n1 : Int) + (n2 : Int)
  · go_enter Try.func5, Try.ntmps5
    go_wp2_with fail
    refine (bytes20_no a0 n0 c0 a1 n1 c1 a2 n2 c2 p v w hlen).mono ?_
    rintro e w' ⟨rfl, rfl⟩
    go_wp2
    go_ret
    exact ⟨rfl, Below.refl _ _⟩
  have hlen' : (n0 : Int) + (n1 : Int) + (n2 : Int) ≤ 1048576 := by omega
  go_enter Try.func5, Try.ntmps5
  go_wp2_with fail
  refine (bytes20_yes a0 n0 c0 a1 n1 c1 a2 n2 c2 p v w hlen').mono ?_
  rintro e w' ⟨rfl, rfl⟩
  by_cases t0 : 131072 < (n0 : Int)
  · go_wp2
    go_ret
    exact ⟨rfl, Below.refl _ _⟩
  have t0' : decide (131072 < (n0 : Int)) = false := decide_eq_false t0
  by_cases t1 : 131072 < (n1 : Int)
  · go_wp2
    go_ret
    exact ⟨rfl, Below.refl _ _⟩
  have t1' : decide (131072 < (n1 : Int)) = false := decide_eq_false t1
  by_cases t2 : 131072 < (n2 : Int)
  · go_wp2
    go_ret
    exact ⟨rfl, Below.refl _ _⟩
  have t2' : decide (131072 < (n2 : Int)) = false := decide_eq_false t2
  by_cases t3 : 1048576 < 8 * ((n0 : Int) + (n1 : Int) + (n2 : Int))
  · go_wp2
    go_ret
    exact ⟨rfl, Below.refl _ _⟩
  have t3' : decide (1048576 < 8 * ((n0 : Int) + (n1 : Int) + (n2 : Int))) = false := decide_eq_false t3
  go_wp2_with fail
  refine (total_any a0 n0 c0 n1 z _ i0 (by omega) (by omega)).mono ?_
  rintro e w'' ⟨tot, ok, rfl, rfl, hgood⟩
  cases ok with
  | false =>
    go_wp2
    go_ret
    exact ⟨rfl, Below.refl _ _⟩
  | true =>
  obtain ⟨hg, rfl⟩ := hgood rfl
  clear hgood
  obtain ⟨N, hN⟩ : ∃ N, n0 = N + 1 := ⟨n0 - 1, by have := hg.n1; omega⟩
  subst hN
  obtain ⟨g1, g2, g3, g4, g5⟩ := hg
  generalize hwd : toW z = wd at *
  clear hwd
  have hcw : ∃ b o, a0 = some ⟨b, o, none⟩ ∧ ∀ i, i < N + 1 → w''.cell? ⟨b, o + i, none⟩ = some (.int .i64 (wd i : Int)) := by
    rcases i0.at_ with h | h | ⟨b, o, h, h2⟩
    · exact absurd (i0.nil h) (by omega)
    · omega
    · exact ⟨b, o, h, fun i hi => by rw [← g3 i hi]; exact h2 i hi⟩
  have i0' : IIn w'' a0 (N + 1) c0 (fun j => (wd j : Int)) := by
    obtain ⟨b, o, h, h2⟩ := hcw
    exact ⟨i0.le, .inr (.inr ⟨b, o, h, h2⟩), i0.nil⟩
  obtain ⟨b0, o0, h0, hcw0⟩ := hcw
  subst h0
  have hcz := hcw0 0 (by omega)
  simp only [Nat.add_zero] at hcz
  clear i0 g3 hcw0
  by_cases t4 : (n2 : Int) < (wd 0 : Int)
  · have t4n : n2 < wd 0 := by omega
    go_wp2
    go_ret
    exact ⟨rfl, Below.refl _ _⟩
  have t4' : decide ((n2 : Int) < (wd 0 : Int)) = false := decide_eq_false t4
  have t4n : decide (n2 < wd 0) = false := decide_eq_false (by omega)
  by_cases t5 : p < 0
  · have t5' : decide (p < 0) = true := decide_eq_true t5
    go_wp2
    go_ret
    exact ⟨rfl, Below.refl _ _⟩
  have t5' : decide (p < 0) = false := decide_eq_false t5
  obtain ⟨q, rfl⟩ : ∃ q : Nat, p = (q : Int) := ⟨p.toNat, by omega⟩
  by_cases t6 : n1 ≤ q
  · have t6' : decide ((n1 : Int) ≤ (q : Int)) = true := decide_eq_true (by omega)
    have t6n : decide (n1 ≤ q) = true := decide_eq_true (by omega)
    go_wp2
    go_ret
    exact ⟨rfl, Below.refl _ _⟩
  have t6' : decide ((n1 : Int) ≤ (q : Int)) = false := decide_eq_false (by omega)
  have t6n : decide (n1 ≤ q) = false := decide_eq_false (by omega)
  go_wp2_with fail
  refine (cloneI_any _ (N + 1) c0 (fun j => (wd j : Int)) _ i0' (by omega) (by omega)).mono ?_
  rintro e wA ⟨rfl, rowW, belA⟩
  go_wp2_with fail
  refine (cloneF_any a1 n1 c1 P _ (i1.below belA) (by omega)).mono ?_
  rintro e wB ⟨aP, bP, rfl, clP⟩
  have belB : Below w''.heap.size w'' wB := belA.trans (clP.bel.mono belA.size)
  go_wp2_with fail
  refine (cloneF_any a2 n2 c2 X _ (i2.below belB) (by omega)).mono ?_
  rintro e wC ⟨aX, bX, rfl, clX⟩
  have belC : Below w''.heap.size w'' wC := belB.trans (clX.bel.mono belB.size)
  have rowPC := fun h => rowIs_below (clP.row h) clX.bel (clP.row h).lt
  have inP : FIn wC aP n1 n1 P := ⟨Nat.le_refl _, .inr (.inr ⟨bP, 0, clP.at_ (by omega), fun i hi => by rw [Nat.zero_add]; exact (rowPC (by omega)).cell hi⟩), fun h => by have := clP.at_ (by omega); rw [this] at h; cases h⟩
  go_wp2_with fail
  refine (cloneF_any aP n1 n1 P _ inP (by omega)).mono ?_
  rintro e wD ⟨aQ, bQ, rfl, clQ⟩
  have belD : Below w''.heap.size w'' wD := belC.trans (clQ.bel.mono belC.size)
  -- the facts of the world behind the clones
  have hn1 : 0 < n1 := by omega
  have eP := clP.at_ hn1
  subst eP
  have eQ := clQ.at_ hn1
  subst eQ
  have rowP := rowIs_below (rowPC hn1) clQ.bel (rowPC hn1).lt
  have rowQ := clQ.row hn1
  have rowW1 := rowIs_below (rowIs_below (rowIs_below rowW clP.bel rowW.lt) clX.bel (Nat.lt_of_lt_of_le rowW.lt clP.bel.size)) clQ.bel (Nat.lt_of_lt_of_le rowW.lt (Nat.le_trans clP.bel.size clX.bel.size))
  have rowX : 0 < n2 → wD.rowIs bX 32 n2 (fun i => .float .f64 (X i)) := fun h => rowIs_below (clX.row h) clQ.bel (clX.row h).lt
  have ltW : w''.heap.size < bQ := Nat.lt_of_lt_of_le rowW.lt (Nat.le_trans clP.bel.size (Nat.le_trans clX.bel.size clQ.base))
  have ltP : bP < bQ := Nat.lt_of_lt_of_le (rowPC hn1).lt clQ.base
  have ltX : 0 < n2 → bX < bQ := fun h => Nat.lt_of_lt_of_le (clX.row h).lt clQ.base
  have atX := clX.at_
  clear rowPC inP i0' i1 i2 clP clX clQ rowW belA belB belC
  have hst := fun wx a m b => run_storeF (P := Try.prog) wx a m b
  have hQc := rowQ.cell (i := q) (by omega)
  have hQf := rowQ.frozen q
  have hqn : (q : Int) < (n1 : Int) := by omega
  have HX : Hid (∀ i, lev wd N P X 0 i = X i) := fun i => rfl
  go_wp2_with fail
  generalize hQf' : (fun i => if i = q then v else P i) = Qf
  have HQ : Hid (∀ i, i ≠ q → P i = Qf i) := fun i hi => by rw [← hQf']; simp [hi]
  have rowQ2 : (wD.setCell ⟨bQ, q, none⟩ (.float .f64 v)).rowIs bQ 32 n1 (fun i => .float .f64 (Qf i)) := (rowQ.set q _).congr fun i hi => by
    rw [← hQf']; by_cases e : i = q
    · simp [e]
    · simp [e]
  have rowP2 := rowP.setOther (a := ⟨bQ, q, none⟩) (by show bP ≠ bQ; omega) (.float .f64 v)
  have rowW2 := rowW1.setOther (a := ⟨bQ, q, none⟩) (by show w''.heap.size ≠ bQ; omega) (.float .f64 v)
  have rowX2 := fun h => (rowX h).setOther (a := ⟨bQ, q, none⟩) (by show bX ≠ bQ; have := ltX h; omega) (.float .f64 v)
  have belE := belD.setCell (p := ⟨bQ, q, none⟩) (by show w''.heap.size ≤ bQ; omega) (.float .f64 v)
  generalize wD.setCell ⟨bQ, q, none⟩ (.float .f64 v) = wE at *
  clear rowP rowQ rowW1 rowX hQc hQf hst ltW ltP ltX hQf' belD
  refine (zzLev_any w''.heap.size 0 N (N + 1) wd _ bP 0 n1 n1 P aX bX 0 n2 n2 X wE (fun j hj => by rw [Nat.zero_add]; exact rowW2.cell hj) (by omega) g4 g5 (Nat.le_refl _) (by omega) (fun _ => rfl) (fun i hi => by rw [Nat.zero_add]; exact rowP2.cell hi) (by omega) atX (fun i hi => by rw [Nat.zero_add]; exact (rowX2 (by omega)).cell hi)).mono ?_
  rintro e wF ⟨ba, bla, vala, rfl, madeA, belF⟩
  have rowQ3 := rowIs_below rowQ2 belF rowQ2.lt
  have rowW3 := rowIs_below rowW2 belF rowW2.lt
  have rowX3 := fun h => rowIs_below (rowX2 h) belF (rowX2 h).lt
  have belF' := belE.trans (belF.mono belE.size)
  clear rowQ2 rowW2 rowX2 rowP2 belF belE
  go_wp2_with fail
  refine (zzLev_any w''.heap.size 0 N (N + 1) wd _ bQ 0 n1 n1 Qf aX bX 0 n2 n2 X wF (fun j hj => by rw [Nat.zero_add]; exact rowW3.cell hj) (by omega) g4 g5 (Nat.le_refl _) (by omega) (fun _ => rfl) (fun i hi => by rw [Nat.zero_add]; exact rowQ3.cell hi) (by omega) atX (fun i hi => by rw [Nat.zero_add]; exact (rowX3 (by omega)).cell hi)).mono ?_
  rintro e wG ⟨bb, blb, valb, rfl, madeB, belG⟩
  have madeA2 := madeA.below belG
  have rowW4 := rowIs_below rowW3 belG rowW3.lt
  have rowX4 := fun h => rowIs_below (rowX3 h) belG (rowX3 h).lt
  have belG' := belF'.trans (belG.mono belF'.size)
  clear rowQ3 rowW3 rowX3 madeA belG belF'
  have hA0 : wG.cell? ⟨ba, 0, none⟩ = some (.slice aX n2 n2) := by have h := madeA2.row.cell (i := 0) (by omega); simpa [rowV] using h
  have hB0 : wG.cell? ⟨bb, 0, none⟩ = some (.slice aX n2 n2) := by have h := madeB.row.cell (i := 0) (by omega); simpa [rowV] using h
  have hN0 : (0 : Int) < (N : Int) + 1 := by omega
  have cX : ∀ i, i < n2 → wG.cell? ⟨bX, 0 + i, none⟩ = some (.float .f64 (X i)) := fun i hi => by rw [Nat.zero_add]; exact (rowX4 (by omega)).cell hi
  go_wp2_with fail
  refine (sameLevel_true aX bX 0 n2 n2 X aX bX 0 n2 X _ (by omega) atX atX cX cX (fun i _ => Eqv.refl _)).mono ?_
  rintro e w1 ⟨rfl, d1, rfl⟩
  go_wp2_with fail
  refine (sameLevel_true aX bX 0 n2 n2 X aX bX 0 n2 X (wG.drewN d1) (by omega) atX atX (fun i hi => cX i hi) (fun i hi => cX i hi) (fun i _ => Eqv.refl _)).mono ?_
  rintro e w2 ⟨rfl, d2, hw2⟩
  have HW2 : Hid (w2 = (wG.drewN d1).drewN d2) := hw2
  clear hw2
  go_wp2
  go_loopw [16] (fun i wr => ∃ k : Nat, k ≤ N ∧ i = .int .i64 ((k : Int) + 1) ∧ ∃ n, wr = wG.drewN n) (fun i _ => N + 1 - (intOf i).toNat)
  case atStart => exact ⟨0, Nat.zero_le _, rfl, d1 + d2, by rw [HW2.out]; simp⟩
  case round =>
    clear HW2
    obtain ⟨k, hk, rfl, dn, hwr⟩ := hrel
    have HWR : Hid (wr = wG.drewN dn) := hwr
    by_cases hlt : k < N
    · have cA : wr.cell? ⟨ba, k + 1, none⟩ = some (.slice (some ⟨bla (k + 1), 0, none⟩) (wd (k + 1)) (wd (k + 1))) := by
        rw [hwr]; have h := madeA2.row.cell (i := k + 1) (by omega); simpa [rowV, hlt] using h
      have cB : wr.cell? ⟨bb, k + 1, none⟩ = some (.slice (some ⟨blb (k + 1), 0, none⟩) (wd (k + 1)) (wd (k + 1))) := by
        rw [hwr]; have h := madeB.row.cell (i := k + 1) (by omega); simpa [rowV, hlt] using h
      have cW : wr.cell? ⟨w''.heap.size, k + 1, none⟩ = some (.int .i64 (wd (k + 1) : Int)) := by
        rw [hwr]; exact rowW4.cell (i := k + 1) (by omega)
      have hi1 : (k : Int) + 1 < (N : Int) + 1 := by omega
      clear hwr cX hA0 hB0
      go_wp2
      go_quiet (fail)
      go_wp2
      go_roundw
      case rel => exact ⟨k + 1, by omega, by go_num, _, by rw [HWR.out]; exact World.drewN_drewN _ _ _⟩
      case measure => simp [intOf]; omega
    · have hkN : k = N := by omega
      subst hkN
      clear hwr hA0 hB0 cX
      go_wp2_with fail
      refine (offs_any w''.heap.size 0 k (k + 1) wd wr (fun j hj => by rw [HWR.out, Nat.zero_add]; exact rowW4.cell hj) (by omega) g4 (by omega)).mono ?_
      rintro e wz ⟨rfl, rowO, belO⟩
      have HB : Hid (Below w''.heap.size w'' wz) := by
        have h1 : Below w''.heap.size w'' wr := by rw [HWR.out]; exact below_drewN belG' _
        exact h1.trans (belO.mono h1.size)
      have madeA3 := (show Made wr _ ba _ _ _ wd _ bla vala _ by rw [HWR.out]; exact ⟨madeA2.row, madeA2.base, madeA2.rows, madeA2.at_, madeA2.eqv⟩).below belO
      have madeB3 := (show Made wr _ bb _ _ _ wd _ blb valb _ by rw [HWR.out]; exact ⟨madeB.row, madeB.base, madeB.rows, madeB.at_, madeB.eqv⟩).below belO
      have rowW5 := (show wr.rowIs w''.heap.size 3 (k + 1) (fun i => .int .i64 (wd i : Int)) by rw [HWR.out]; exact rowW4)
      have rowW6 := rowIs_below rowW5 belO rowW5.lt
      have rowX5 : 0 < n2 → wz.rowIs bX 32 n2 (fun i => .float .f64 (X i)) := fun h => by
        have h1 : wr.rowIs bX 32 n2 (fun i => .float .f64 (X i)) := by rw [HWR.out]; exact rowX4 h
        exact rowIs_below h1 belO h1.lt
      clear madeA2 madeB rowW4 rowX4 rowW5 belG' belO HWR
      by_cases hpt : q < off wd (k + 1)
      · have hpt' : (q : Int) < (off wd (k + 1) : Nat) := by omega
        go_wp2
        go_loop [19, 21] (fun y i => ∃ t : Nat, t ≤ k ∧ i = .int .i64 ((t : Int) + 1) ∧ y = .int .i64 ((k : Int) + 1) ∧ off wd (t + 1) ≤ q) (fun _ i => k + 1 - (intOf i).toNat)
        case atStart => exact ⟨0, Nat.zero_le _, rfl, rfl, Nat.zero_le _⟩
        case round =>
          obtain ⟨t, ht, rfl, rfl, hot⟩ := hrel
          have htk : t < k := by
            rcases Nat.lt_or_ge t k with h | h
            · exact h
            · have : t = k := by omega
              subst this; omega
          have htk' : (t : Int) + 1 ≤ (k : Int) := by omega
          have cO : wz.cell? ⟨wr.heap.size, t + 1 + 1, none⟩ = some (.int .i64 (off wd (t + 2) : Nat)) := rowO.cell (i := t + 2) (by omega)
          have cO1 : wz.cell? ⟨wr.heap.size, t + 1, none⟩ = some (.int .i64 (off wd (t + 1) : Nat)) := rowO.cell (i := t + 1) (by omega)
          have cW0 : wz.cell? ⟨w''.heap.size, t, none⟩ = some (.int .i64 (wd t : Int)) := rowW6.cell (i := t) (by omega)
          have cW1 : wz.cell? ⟨w''.heap.size, t + 1, none⟩ = some (.int .i64 (wd (t + 1) : Int)) := rowW6.cell (i := t + 1) (by omega)
          have hi2 : (t : Int) + 1 + 1 < (k : Int) + 2 := by omega
          have hi1 : (t : Int) + 1 < (k : Int) + 2 := by omega
          have hi3 : (t : Int) < (k : Int) + 1 := by omega
          have hi4 : (t : Int) + 1 < (k : Int) + 1 := by omega
          by_cases hq2 : q < off wd (t + 2)
          · have hq2' : (q : Int) < (off wd (t + 2) : Nat) := by omega
            have HO : Hid (off wd (t + 2) = off wd (t + 1) + wd (t + 1) * (wd t + 1)) := off_succ wd t
            have HMS : Hid (wd (t + 1) * (wd t + 1) = wd (t + 1) * wd t + wd (t + 1)) := Nat.mul_succ _ _
            have hob : off wd (t + 2) ≤ 131072 := Nat.le_trans (off_mono wd (t + 2) (k + 1) (by omega)) (by omega)
            have hq0 : 0 ≤ (wd (t + 1) : Int) * (wd t : Int) := by rw [mul_cast']; omega
            have hq1 : (wd (t + 1) : Int) * (wd t : Int) ≤ 131072 := by rw [mul_cast']; have := HO.out; have := HMS.out; omega
            have hwt := g4 t (by omega)
            have hotI : ((off wd (t + 1) : Nat) : Int) ≤ (q : Int) := by omega
            have hqb : (q : Int) ≤ 131072 := by omega
            have HS : Hid (∀ m, m < t + 1 → m < k + 1 → ∀ j, (m = 0 ∨ j < wd m) → Eqv (lev wd k P X m j) (lev wd k Qf X m j)) := fun m h1 h2 j hj => by
              rw [lev_congr m (fun i hi => HQ.out i (by have := off_mono wd (m + 1) (t + 1) (by omega); omega)) j hj]; exact Eqv.refl _
            clear rowO rowW6
            by_cases hrel2 : (q : Int) - (off wd (t + 1) : Nat) < (wd (t + 1) : Int) * (wd t : Int)
            · have hwpos : (0 : Int) < (wd t : Int) := by
                rcases Nat.eq_zero_or_pos (wd t) with h | h
                · exfalso; rw [h] at hrel2; simp at hrel2; omega
                · omega
              have HU : Hid (t + 1 < k + 1 → ∀ i, i < wd (t + 1) → (i : Int) ≠ ((q : Int) - (off wd (t + 1) : Nat)) / (wd t : Int) → Eqv (lev wd k P X (t + 1) i) (lev wd k Qf X (t + 1) i)) := fun h i hi hne => by
                rw [lev_unit HQ.out hot hq2 i hi (fun h e => hne ?_) (fun h => absurd ?_ h)]
                · exact Eqv.refl _
                · rw [e, Int.natCast_ediv, Int.natCast_sub hot]
                · rw [mul_cast'] at hrel2; omega
              go_upto_region 44 with fail
              have hdec : decide ((k : Int) < (t : Int) + 1) = false := decide_eq_false (by omega)
              clear hi2 htk'
              go_upto_region 52 with fail
              generalize ((q : Int) - (off wd (t + 1) : Nat)) / (wd t : Int) = U at HU ⊢
              clear hdec hrel2 hwpos hq0 hq1 hwt hotI hqb hob cO cO1 cW0 cW1 hi1 hi3 hi4 hq2' hpt'
              go_wp2
              go_loopw [25] (fun i wr => ∃ m : Nat, m ≤ k + 1 ∧ m ≤ t + 1 + 1 ∧ i = .int .i64 (m : Int) ∧ ∃ n, wr = wz.drewN n) (fun i _ => k + 2 - (intOf i).toNat)
              case atStart => exact ⟨0, by omega, by omega, rfl, 0, rfl⟩
              case round =>
                obtain ⟨m, hm1, hm2, rfl, dm, hwm⟩ := hrel
                have HWM : Hid (wr = wz.drewN dm) := hwm
                by_cases hmN : m < k + 1
                · have hmN' : (m : Int) < (k : Int) + 1 := by omega
                  by_cases hmy : m ≤ t + 1
                  · have hmy' : (m : Int) ≤ ((t : Int) + 1) := by omega
                    obtain ⟨alA, bbA, ooA, clA, fA, cA, atA, celA, eqA⟩ := madeA3.full (bx := bX) (ox := 0) (fun i => rfl) atX (fun i hi => by rw [Nat.zero_add]; exact (rowX5 (by omega)).cell hi) m hmN (Nat.le_refl _) hmN
                    obtain ⟨alB, bbB, ooB, clB, fB, cB, atB, celB, eqB⟩ := madeB3.full (bx := bX) (ox := 0) (fun i => rfl) atX (fun i hi => by rw [Nat.zero_add]; exact (rowX5 (by omega)).cell hi) m hmN (Nat.le_refl _) hmN
                    have cA' : wr.cell? ⟨ba, m, none⟩ = some (.slice alA (if m = 0 then n2 else wd m) clA) := by rw [hwm]; exact cA
                    have cB' : wr.cell? ⟨bb, m, none⟩ = some (.slice alB (if m = 0 then n2 else wd m) clB) := by rw [hwm]; exact cB
                    have celA' : ∀ j, j < (if m = 0 then n2 else wd m) → wr.cell? ⟨bbA, ooA + j, none⟩ = some (.float .f64 (fA j)) := fun j hj => by rw [hwm]; exact celA j hj
                    have celB' : ∀ j, j < (if m = 0 then n2 else wd m) → wr.cell? ⟨bbB, ooB + j, none⟩ = some (.float .f64 (fB j)) := fun j hj => by rw [hwm]; exact celB j hj
                    have hnm : (if m = 0 then n2 else wd m) ≤ 1048576 := by split <;> first | omega | exact g4 m hmN
                    have HNM : Hid (¬ m = 0 → (if m = 0 then n2 else wd m) = wd m) := fun h => by rw [if_neg h]
                    have HE1 : Hid (m < t + 1 → ∀ j, j < (if m = 0 then n2 else wd m) → Eqv (fA j) (fB j)) := fun h j hj => (eqA j hj).trans ((HS.out m h hmN j (by by_cases e : m = 0 <;> simp_all)).trans (eqB j hj).symm)
                    have HE2 : Hid (m = t + 1 → ∀ j, j < (if m = 0 then n2 else wd m) → (j : Int) ≠ U → Eqv (fA j) (fB j)) := fun h j hj hu => by
                      subst h
                      have e : (if t + 1 = 0 then n2 else wd (t + 1)) = wd (t + 1) := HNM.out (by omega)
                      have hj' : j < wd (t + 1) := by rw [← e]; exact hj
                      exact (eqA j hj).trans ((HU.out hmN j hj' hu).trans (eqB j hj).symm)
                    generalize (if m = 0 then n2 else wd m) = nm at *
                    clear eqA eqB hwm HNM
                    by_cases hlt2 : m < t + 1
                    · have hlt2' : (m : Int) < ((t : Int) + 1) := by omega
                      have HC : Hid (∀ x, Calls Try.prog 14 #[.slice alA nm clA, .slice alB nm clB] (wr.drewN x) fun e w'' => e = .returned (.bool true) ∧ ∃ n, w'' = wr.drewN n) := fun x =>
                        (sameLevel_true alA bbA ooA nm clA fA alB bbB ooB clB fB (wr.drewN x) hnm atA atB (fun i hi => celA' i hi) (fun i hi => celB' i hi) (HE1.out hlt2)).mono (fun e w' h => ⟨h.1, by obtain ⟨n', rfl⟩ := h.2; exact ⟨_, World.drewN_drewN _ _ _⟩⟩)
                      clear celA' celB' atA atB
                      go_wp2
                      go_quiet ((go_at_call 14; exact HC.out _))
                      go_wp2
                      go_roundw
                      case rel => exact ⟨m + 1, by omega, by omega, by go_num, _, by rw [HWM.out]; exact World.drewN_drewN _ _ _⟩
                      case measure => simp [intOf]; omega
                    · have hlt2' : decide ((m : Int) < ((t : Int) + 1)) = false := decide_eq_false (by omega)
                      have hmy2 : m = t + 1 := by omega
                      have HE3 := HE2.out hmy2
                      have HE4 : Hid (∀ j, j < nm → (j : Int) ≠ U → Eqv (fA j) (fB j)) := HE3
                      clear HE3 HE2 HE1
                      have HMY : Hid (m = t + 1) := hmy2
                      clear hmy2
                      go_wp2
                      clear celA' celB' cA' cB'
                      go_loopw [26] (fun i wi => ∃ j : Nat, j ≤ nm ∧ i = .int .i64 (j : Int) ∧ ∃ n, wi = wz.drewN n) (fun i _ => nm - (intOf i).toNat)
                      case atStart => exact ⟨0, Nat.zero_le _, rfl, dm, HWM.out⟩
                      case round =>
                        obtain ⟨j, hj, rfl, dj, hwj⟩ := hrel
                        have HWJ : Hid (wr = wz.drewN dj) := hwj
                        have kA : wr.cell? ⟨ba, m, none⟩ = some (.slice alA nm clA) := by rw [hwj]; exact cA
                        have kB : wr.cell? ⟨bb, m, none⟩ = some (.slice alB nm clB) := by rw [hwj]; exact cB
                        by_cases hjn : j < nm
                        · have eA := atA (by omega)
                          subst eA
                          have eB := atB (by omega)
                          subst eB
                          have vA : wr.cell? ⟨bbA, ooA + j, none⟩ = some (.float .f64 (fA j)) := by rw [hwj]; exact celA j hjn
                          have vB : wr.cell? ⟨bbB, ooB + j, none⟩ = some (.float .f64 (fB j)) := by rw [hwj]; exact celB j hjn
                          have hjn' : (j : Int) < (nm : Int) := by omega
                          by_cases hu : (j : Int) = U
                          · have hu' : ((j : Int) != U) = false := by simp [hu]
                            clear hwj hu cA cB celA celB
                            go_wp2
                            go_quiet (fail)
                            go_wp2
                            go_roundw
                            case rel => exact ⟨j + 1, by omega, by go_num, _, by rw [HWJ.out]; exact World.drewN_drewN _ _ _⟩
                            case measure => simp [intOf]; omega
                          · have hu' : ((j : Int) != U) = true := by simp [hu]
                            have HC : Hid (∀ x, Calls Try.prog 16 #[.float .f64 (fA j), .float .f64 (fB j)] (wr.drewN x) fun e w'' => e = .returned (.bool true) ∧ ∃ n, w'' = wr.drewN n) := fun x =>
                              (sameF_true _ _ (HE4.out j hjn hu) (wr.drewN x)).mono (fun e w' h => ⟨h.1, by obtain ⟨n', rfl⟩ := h.2; exact ⟨_, World.drewN_drewN _ _ _⟩⟩)
                            clear hwj hu cA cB celA celB
                            go_wp2
                            go_quiet ((go_at_call 16; exact HC.out _))
                            go_wp2
                            go_roundw
                            case rel => exact ⟨j + 1, by omega, by go_num, _, by rw [HWJ.out]; exact World.drewN_drewN _ _ _⟩
                            case measure => simp [intOf]; omega
                        · clear hwj cA cB celA celB
                          go_wp2
                          go_roundw
                          case rel => exact ⟨m + 1, by omega, by have := HMY.out; omega, by go_num, dj, HWJ.out⟩
                          case measure => simp [intOf]; omega
                  · have hmy' : decide ((m : Int) ≤ ((t : Int) + 1)) = false := decide_eq_false (by omega)
                    clear hwm
                    go_wp2
                    go_ret
                    exact ⟨rfl, by rw [HWM.out]; exact below_drewN HB.out _⟩
                · have hmN' : decide ((m : Int) < (k : Int) + 1) = false := decide_eq_false (by omega)
                  clear hwm
                  go_wp2
                  go_ret
                  exact ⟨rfl, by rw [HWM.out]; exact below_drewN HB.out _⟩
            · have HU : Hid (t + 1 < k + 1 → ∀ i, i < wd (t + 1) → (i : Int) ≠ (q : Int) - (off wd (t + 1) : Nat) - (wd (t + 1) : Int) * (wd t : Int) → Eqv (lev wd k P X (t + 1) i) (lev wd k Qf X (t + 1) i)) := fun h i hi hne => by
                rw [lev_unit HQ.out hot hq2 i hi (fun h => ?_) (fun h e => hne ?_)]
                · exact Eqv.refl _
                · rw [mul_cast'] at hrel2; omega
                · rw [e, mul_cast']; rw [mul_cast'] at hrel2; omega
              have hrel3 : decide ((q : Int) - (off wd (t + 1) : Nat) < (wd (t + 1) : Int) * (wd t : Int)) = false := decide_eq_false hrel2
              go_upto_region 44 with fail
              have hdec : decide ((k : Int) < (t : Int) + 1) = false := decide_eq_false (by omega)
              clear hi2 htk'
              go_upto_region 52 with fail
              generalize (q : Int) - (off wd (t + 1) : Nat) - (wd (t + 1) : Int) * (wd t : Int) = U at HU ⊢
              clear hdec hrel2 hrel3 hq0 hq1 hwt hotI hqb hob cO cO1 cW0 cW1 hi1 hi3 hi4 hq2' hpt'
              go_wp2
              go_loopw [25] (fun i wr => ∃ m : Nat, m ≤ k + 1 ∧ m ≤ t + 1 + 1 ∧ i = .int .i64 (m : Int) ∧ ∃ n, wr = wz.drewN n) (fun i _ => k + 2 - (intOf i).toNat)
              case atStart => exact ⟨0, by omega, by omega, rfl, 0, rfl⟩
              case round =>
                obtain ⟨m, hm1, hm2, rfl, dm, hwm⟩ := hrel
                have HWM : Hid (wr = wz.drewN dm) := hwm
                by_cases hmN : m < k + 1
                · have hmN' : (m : Int) < (k : Int) + 1 := by omega
                  by_cases hmy : m ≤ t + 1
                  · have hmy' : (m : Int) ≤ ((t : Int) + 1) := by omega
                    obtain ⟨alA, bbA, ooA, clA, fA, cA, atA, celA, eqA⟩ := madeA3.full (bx := bX) (ox := 0) (fun i => rfl) atX (fun i hi => by rw [Nat.zero_add]; exact (rowX5 (by omega)).cell hi) m hmN (Nat.le_refl _) hmN
                    obtain ⟨alB, bbB, ooB, clB, fB, cB, atB, celB, eqB⟩ := madeB3.full (bx := bX) (ox := 0) (fun i => rfl) atX (fun i hi => by rw [Nat.zero_add]; exact (rowX5 (by omega)).cell hi) m hmN (Nat.le_refl _) hmN
                    have cA' : wr.cell? ⟨ba, m, none⟩ = some (.slice alA (if m = 0 then n2 else wd m) clA) := by rw [hwm]; exact cA
                    have cB' : wr.cell? ⟨bb, m, none⟩ = some (.slice alB (if m = 0 then n2 else wd m) clB) := by rw [hwm]; exact cB
                    have celA' : ∀ j, j < (if m = 0 then n2 else wd m) → wr.cell? ⟨bbA, ooA + j, none⟩ = some (.float .f64 (fA j)) := fun j hj => by rw [hwm]; exact celA j hj
                    have celB' : ∀ j, j < (if m = 0 then n2 else wd m) → wr.cell? ⟨bbB, ooB + j, none⟩ = some (.float .f64 (fB j)) := fun j hj => by rw [hwm]; exact celB j hj
                    have hnm : (if m = 0 then n2 else wd m) ≤ 1048576 := by split <;> first | omega | exact g4 m hmN
                    have HNM : Hid (¬ m = 0 → (if m = 0 then n2 else wd m) = wd m) := fun h => by rw [if_neg h]
                    have HE1 : Hid (m < t + 1 → ∀ j, j < (if m = 0 then n2 else wd m) → Eqv (fA j) (fB j)) := fun h j hj => (eqA j hj).trans ((HS.out m h hmN j (by by_cases e : m = 0 <;> simp_all)).trans (eqB j hj).symm)
                    have HE2 : Hid (m = t + 1 → ∀ j, j < (if m = 0 then n2 else wd m) → (j : Int) ≠ U → Eqv (fA j) (fB j)) := fun h j hj hu => by
                      subst h
                      have e : (if t + 1 = 0 then n2 else wd (t + 1)) = wd (t + 1) := HNM.out (by omega)
                      have hj' : j < wd (t + 1) := by rw [← e]; exact hj
                      exact (eqA j hj).trans ((HU.out hmN j hj' hu).trans (eqB j hj).symm)
                    generalize (if m = 0 then n2 else wd m) = nm at *
                    clear eqA eqB hwm HNM
                    by_cases hlt2 : m < t + 1
                    · have hlt2' : (m : Int) < ((t : Int) + 1) := by omega
                      have HC : Hid (∀ x, Calls Try.prog 14 #[.slice alA nm clA, .slice alB nm clB] (wr.drewN x) fun e w'' => e = .returned (.bool true) ∧ ∃ n, w'' = wr.drewN n) := fun x =>
                        (sameLevel_true alA bbA ooA nm clA fA alB bbB ooB clB fB (wr.drewN x) hnm atA atB (fun i hi => celA' i hi) (fun i hi => celB' i hi) (HE1.out hlt2)).mono (fun e w' h => ⟨h.1, by obtain ⟨n', rfl⟩ := h.2; exact ⟨_, World.drewN_drewN _ _ _⟩⟩)
                      clear celA' celB' atA atB
                      go_wp2
                      go_quiet ((go_at_call 14; exact HC.out _))
                      go_wp2
                      go_roundw
                      case rel => exact ⟨m + 1, by omega, by omega, by go_num, _, by rw [HWM.out]; exact World.drewN_drewN _ _ _⟩
                      case measure => simp [intOf]; omega
                    · have hlt2' : decide ((m : Int) < ((t : Int) + 1)) = false := decide_eq_false (by omega)
                      have hmy2 : m = t + 1 := by omega
                      have HE3 := HE2.out hmy2
                      have HE4 : Hid (∀ j, j < nm → (j : Int) ≠ U → Eqv (fA j) (fB j)) := HE3
                      clear HE3 HE2 HE1
                      have HMY : Hid (m = t + 1) := hmy2
                      clear hmy2
                      go_wp2
                      clear celA' celB' cA' cB'
                      go_loopw [26] (fun i wi => ∃ j : Nat, j ≤ nm ∧ i = .int .i64 (j : Int) ∧ ∃ n, wi = wz.drewN n) (fun i _ => nm - (intOf i).toNat)
                      case atStart => exact ⟨0, Nat.zero_le _, rfl, dm, HWM.out⟩
                      case round =>
                        obtain ⟨j, hj, rfl, dj, hwj⟩ := hrel
                        have HWJ : Hid (wr = wz.drewN dj) := hwj
                        have kA : wr.cell? ⟨ba, m, none⟩ = some (.slice alA nm clA) := by rw [hwj]; exact cA
                        have kB : wr.cell? ⟨bb, m, none⟩ = some (.slice alB nm clB) := by rw [hwj]; exact cB
                        by_cases hjn : j < nm
                        · have eA := atA (by omega)
                          subst eA
                          have eB := atB (by omega)
                          subst eB
                          have vA : wr.cell? ⟨bbA, ooA + j, none⟩ = some (.float .f64 (fA j)) := by rw [hwj]; exact celA j hjn
                          have vB : wr.cell? ⟨bbB, ooB + j, none⟩ = some (.float .f64 (fB j)) := by rw [hwj]; exact celB j hjn
                          have hjn' : (j : Int) < (nm : Int) := by omega
                          by_cases hu : (j : Int) = U
                          · have hu' : ((j : Int) != U) = false := by simp [hu]
                            clear hwj hu cA cB celA celB
                            go_wp2
                            go_quiet (fail)
                            go_wp2
                            go_roundw
                            case rel => exact ⟨j + 1, by omega, by go_num, _, by rw [HWJ.out]; exact World.drewN_drewN _ _ _⟩
                            case measure => simp [intOf]; omega
                          · have hu' : ((j : Int) != U) = true := by simp [hu]
                            have HC : Hid (∀ x, Calls Try.prog 16 #[.float .f64 (fA j), .float .f64 (fB j)] (wr.drewN x) fun e w'' => e = .returned (.bool true) ∧ ∃ n, w'' = wr.drewN n) := fun x =>
                              (sameF_true _ _ (HE4.out j hjn hu) (wr.drewN x)).mono (fun e w' h => ⟨h.1, by obtain ⟨n', rfl⟩ := h.2; exact ⟨_, World.drewN_drewN _ _ _⟩⟩)
                            clear hwj hu cA cB celA celB
                            go_wp2
                            go_quiet ((go_at_call 16; exact HC.out _))
                            go_wp2
                            go_roundw
                            case rel => exact ⟨j + 1, by omega, by go_num, _, by rw [HWJ.out]; exact World.drewN_drewN _ _ _⟩
                            case measure => simp [intOf]; omega
                        · clear hwj cA cB celA celB
                          go_wp2
                          go_roundw
                          case rel => exact ⟨m + 1, by omega, by have := HMY.out; omega, by go_num, dj, HWJ.out⟩
                          case measure => simp [intOf]; omega
                  · have hmy' : decide ((m : Int) ≤ ((t : Int) + 1)) = false := decide_eq_false (by omega)
                    clear hwm
                    go_wp2
                    go_ret
                    exact ⟨rfl, by rw [HWM.out]; exact below_drewN HB.out _⟩
                · have hmN' : decide ((m : Int) < (k : Int) + 1) = false := decide_eq_false (by omega)
                  clear hwm
                  go_wp2
                  go_ret
                  exact ⟨rfl, by rw [HWM.out]; exact below_drewN HB.out _⟩
          · have hq2' : decide ((q : Int) < (off wd (t + 2) : Nat)) = false := decide_eq_false (by omega)
            have hq2n : decide (q < off wd (t + 2)) = false := decide_eq_false (by omega)
            go_wp2
            go_round
            case rel => exact ⟨t + 1, by omega, by go_num, rfl, Nat.le_of_not_lt hq2⟩
            case measure => simp [intOf]; omega
      · have hpt' : decide ((q : Int) < (off wd (k + 1) : Nat)) = false := decide_eq_false (by omega)
        have hptn : decide (q < off wd (k + 1)) = false := decide_eq_false (by omega)
        have HS : Hid (∀ m, m < k + 1 → m < k + 1 → ∀ j, (m = 0 ∨ j < wd m) → Eqv (lev wd k P X m j) (lev wd k Qf X m j)) := fun m h1 h2 j hj => by
          rw [lev_congr m (fun i hi => HQ.out i (by have := off_mono wd (m + 1) (k + 1) (by omega); omega)) j hj]; exact Eqv.refl _
        have HU : Hid (k + 1 < k + 1 → ∀ i, i < wd (k + 1) → (i : Int) ≠ -1 → Eqv (lev wd k P X (k + 1) i) (lev wd k Qf X (k + 1) i)) := fun h => by omega
        go_wp2
        go_loopw [25] (fun i wr => ∃ m : Nat, m ≤ k + 1 ∧ m ≤ k + 1 + 1 ∧ i = .int .i64 (m : Int) ∧ ∃ n, wr = wz.drewN n) (fun i _ => k + 2 - (intOf i).toNat)
        case atStart => exact ⟨0, by omega, by omega, rfl, 0, rfl⟩
        case round =>
          obtain ⟨m, hm1, hm2, rfl, dm, hwm⟩ := hrel
          have HWM : Hid (wr = wz.drewN dm) := hwm
          by_cases hmN : m < k + 1
          · have hmN' : (m : Int) < (k : Int) + 1 := by omega
            by_cases hmy : m ≤ k + 1
            · have hmy' : (m : Int) ≤ ((k : Int) + 1) := by omega
              obtain ⟨alA, bbA, ooA, clA, fA, cA, atA, celA, eqA⟩ := madeA3.full (bx := bX) (ox := 0) (fun i => rfl) atX (fun i hi => by rw [Nat.zero_add]; exact (rowX5 (by omega)).cell hi) m hmN (Nat.le_refl _) hmN
              obtain ⟨alB, bbB, ooB, clB, fB, cB, atB, celB, eqB⟩ := madeB3.full (bx := bX) (ox := 0) (fun i => rfl) atX (fun i hi => by rw [Nat.zero_add]; exact (rowX5 (by omega)).cell hi) m hmN (Nat.le_refl _) hmN
              have cA' : wr.cell? ⟨ba, m, none⟩ = some (.slice alA (if m = 0 then n2 else wd m) clA) := by rw [hwm]; exact cA
              have cB' : wr.cell? ⟨bb, m, none⟩ = some (.slice alB (if m = 0 then n2 else wd m) clB) := by rw [hwm]; exact cB
              have celA' : ∀ j, j < (if m = 0 then n2 else wd m) → wr.cell? ⟨bbA, ooA + j, none⟩ = some (.float .f64 (fA j)) := fun j hj => by rw [hwm]; exact celA j hj
              have celB' : ∀ j, j < (if m = 0 then n2 else wd m) → wr.cell? ⟨bbB, ooB + j, none⟩ = some (.float .f64 (fB j)) := fun j hj => by rw [hwm]; exact celB j hj
              have hnm : (if m = 0 then n2 else wd m) ≤ 1048576 := by split <;> first | omega | exact g4 m hmN
              have HNM : Hid (¬ m = 0 → (if m = 0 then n2 else wd m) = wd m) := fun h => by rw [if_neg h]
              have HE1 : Hid (m < k + 1 → ∀ j, j < (if m = 0 then n2 else wd m) → Eqv (fA j) (fB j)) := fun h j hj => (eqA j hj).trans ((HS.out m h hmN j (by by_cases e : m = 0 <;> simp_all)).trans (eqB j hj).symm)
              have HE2 : Hid (m = k + 1 → ∀ j, j < (if m = 0 then n2 else wd m) → (j : Int) ≠ (-1) → Eqv (fA j) (fB j)) := fun h j hj hu => by
                subst h
                have e : (if k + 1 = 0 then n2 else wd (k + 1)) = wd (k + 1) := HNM.out (by omega)
                have hj' : j < wd (k + 1) := by rw [← e]; exact hj
                exact (eqA j hj).trans ((HU.out hmN j hj' hu).trans (eqB j hj).symm)
              generalize (if m = 0 then n2 else wd m) = nm at *
              clear eqA eqB hwm HNM
              by_cases hlt2 : m < k + 1
              · have hlt2' : (m : Int) < ((k : Int) + 1) := by omega
                have HC : Hid (∀ x, Calls Try.prog 14 #[.slice alA nm clA, .slice alB nm clB] (wr.drewN x) fun e w'' => e = .returned (.bool true) ∧ ∃ n, w'' = wr.drewN n) := fun x =>
                  (sameLevel_true alA bbA ooA nm clA fA alB bbB ooB clB fB (wr.drewN x) hnm atA atB (fun i hi => celA' i hi) (fun i hi => celB' i hi) (HE1.out hlt2)).mono (fun e w' h => ⟨h.1, by obtain ⟨n', rfl⟩ := h.2; exact ⟨_, World.drewN_drewN _ _ _⟩⟩)
                clear celA' celB' atA atB
                go_wp2
                go_quiet ((go_at_call 14; exact HC.out _))
                go_wp2
                go_roundw
                case rel => exact ⟨m + 1, by omega, by omega, by go_num, _, by rw [HWM.out]; exact World.drewN_drewN _ _ _⟩
                case measure => simp [intOf]; omega
              · omega
            · have hmy' : decide ((m : Int) ≤ ((k : Int) + 1)) = false := decide_eq_false (by omega)
              clear hwm
              go_wp2
              go_ret
              exact ⟨rfl, by rw [HWM.out]; exact below_drewN HB.out _⟩
          · have hmN' : decide ((m : Int) < (k : Int) + 1) = false := decide_eq_false (by omega)
            clear hwm
            go_wp2
            go_ret
            exact ⟨rfl, by rw [HWM.out]; exact below_drewN HB.out _⟩

end Go.Proofs.Qxb6603460a.fnDenseLevelsOneSlotReachesOnlyItsUnit
