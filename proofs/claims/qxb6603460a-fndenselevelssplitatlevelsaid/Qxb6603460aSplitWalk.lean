import Derived.Test.Qxb6603460aSplitLaw
import Derived.Deep.RegionHeld
namespace Go.Proofs.Qxb6603460a.fnDenseLevelsSplitAtLevel
open Go.ChangeShapes Go.WideShapes Go.ChangeAt Go.RowKit
set_option linter.unusedVariables false

theorem hid {p : Prop} (h : p) : Hid p := h

theorem drewMade {w : World} {B ba L lr l : Nat} {wd : Nat → Nat} {xv : Value} {bl : Nat → Nat} {val lv : Nat → Nat → Nat} (h : Made w B ba L lr l wd xv bl val lv) (n : Nat) : Made (w.drewN n) B ba L lr l wd xv bl val lv :=
  ⟨h.row, h.base, h.rows, h.at_, h.eqv⟩

set_option maxHeartbeats 8000000 in
set_option maxRecDepth 100000 in
theorem walk (a0 : Option Addr) (n0 c0 : Nat) (z : Nat → Int) (a1 : Option Addr) (n1 c1 : Nat) (P : Nat → Nat) (a2 : Option Addr) (n2 c2 : Nat) (X : Nat → Nat) (p : Int) (w : World)
    (i0 : IIn w a0 n0 c0 z) (i1 : FIn w a1 n1 c1 P) (i2 : FIn w a2 n2 c2 X) :
    Calls Try.prog 3 #[.slice a0 n0 c0, .slice a1 n1 c1, .slice a2 n2 c2, .int .i64 p] w fun e w' => e = .returned (.bool true) ∧ Below w.heap.size w w' := by
  by_cases hlen : 1048576 < (n0 : Int) + (n1 : Int) + (n2 : Int)
  · go_enter Try.func3, Try.ntmps3
    go_wp2_with fail
    refine (bytes8_no a0 n0 c0 a1 n1 c1 a2 n2 c2 p w hlen).mono ?_
    rintro e w' ⟨rfl, rfl⟩
    go_wp2
    go_ret
    exact ⟨rfl, Below.refl _ _⟩
  have hlen' : (n0 : Int) + (n1 : Int) + (n2 : Int) ≤ 1048576 := by omega
  go_enter Try.func3, Try.ntmps3
  go_wp2_with fail
  refine (bytes8_yes a0 n0 c0 a1 n1 c1 a2 n2 c2 p w hlen').mono ?_
  rintro e w' ⟨rfl, rfl⟩
  by_cases t0 : 131072 < (n0 : Int)
  · go_wp2
    go_ret
    exact ⟨rfl, Below.refl _ _⟩
  have t0' : decide (131072 < (n0 : Int)) = false := decide_eq_false t0
  by_cases t1 : 131072 < (n1 : Int)
  · go_wp2
    go_ret
    exact ⟨rfl, Below.refl _ _⟩
  have t1' : decide (131072 < (n1 : Int)) = false := decide_eq_false t1
  by_cases t2 : 131072 < (n2 : Int)
  · go_wp2
    go_ret
    exact ⟨rfl, Below.refl _ _⟩
  have t2' : decide (131072 < (n2 : Int)) = false := decide_eq_false t2
  by_cases t3 : 1048576 < 8 * ((n0 : Int) + (n1 : Int) + (n2 : Int))
  · go_wp2
    go_ret
    exact ⟨rfl, Below.refl _ _⟩
  have t3' : decide (1048576 < 8 * ((n0 : Int) + (n1 : Int) + (n2 : Int))) = false := decide_eq_false t3
  go_wp2_with fail
  refine (total_any a0 n0 c0 n1 z _ i0 (by omega) (by omega)).mono ?_
  rintro e w'' ⟨tot, ok, rfl, rfl, hgood⟩
  cases ok with
  | false =>
    go_wp2
    go_ret
    exact ⟨rfl, Below.refl _ _⟩
  | true =>
  obtain ⟨hg, rfl⟩ := hgood rfl
  clear hgood
  obtain ⟨N, hN⟩ : ∃ N, n0 = N + 1 := ⟨n0 - 1, by have := hg.n1; omega⟩
  subst hN
  obtain ⟨g1, g2, g3, g4, g5⟩ := hg
  generalize hwd : toW z = wd at *
  clear hwd
  have hcw : ∃ b o, a0 = some ⟨b, o, none⟩ ∧ ∀ i, i < N + 1 → w''.cell? ⟨b, o + i, none⟩ = some (.int .i64 (wd i : Int)) := by
    rcases i0.at_ with h | h | ⟨b, o, h, h2⟩
    · exact absurd (i0.nil h) (by omega)
    · omega
    · exact ⟨b, o, h, fun i hi => by rw [← g3 i hi]; exact h2 i hi⟩
  have i0' : IIn w'' a0 (N + 1) c0 (fun j => (wd j : Int)) := by
    obtain ⟨b, o, h, h2⟩ := hcw
    exact ⟨i0.le, .inr (.inr ⟨b, o, h, h2⟩), i0.nil⟩
  obtain ⟨b0, o0, h0, hcw0⟩ := hcw
  subst h0
  have hcz := hcw0 0 (by omega)
  simp only [Nat.add_zero] at hcz
  clear i0 g3 hcw0
  by_cases t4 : (n2 : Int) < (wd 0 : Int)
  · have t4n : n2 < wd 0 := by omega
    go_wp2
    go_ret
    exact ⟨rfl, Below.refl _ _⟩
  have t4' : decide ((n2 : Int) < (wd 0 : Int)) = false := decide_eq_false t4
  have t4n : decide (n2 < wd 0) = false := decide_eq_false (by omega)
  by_cases t5 : p < 1
  · have t5' : decide (p < 1) = true := decide_eq_true t5
    go_wp2
    go_ret
    exact ⟨rfl, Below.refl _ _⟩
  have t5' : decide (p < 1) = false := decide_eq_false t5
  by_cases t6 : (N : Int) < p
  · have t6' : decide ((N : Int) < p) = true := decide_eq_true t6
    go_wp2
    go_ret
    exact ⟨rfl, Below.refl _ _⟩
  have t6' : decide ((N : Int) < p) = false := decide_eq_false t6
  go_wp2_with fail
  obtain ⟨k, hpk⟩ : ∃ k : Nat, p = (k : Int) := ⟨p.toNat, by omega⟩
  have hk1 : 1 ≤ k := by omega
  have hkN : k ≤ N := by omega
  clear t5' t6' t5 t6 t4' t4n t3' t2' t1' t0'
  subst hpk
  obtain ⟨M, hM⟩ : ∃ M : Nat, N = k + M := ⟨N - k, by omega⟩
  have HN : Hid (N = k + M) := hM
  clear hM
  refine (cloneI_any _ (N + 1) c0 (fun j => (wd j : Int)) _ i0' (by omega) (by omega)).mono ?_
  rintro e wA ⟨rfl, rowW, belA⟩
  go_wp2_with fail
  refine (cloneF_any a1 n1 c1 P _ (i1.below belA) (by omega)).mono ?_
  rintro e wB ⟨aP, bP, rfl, clP⟩
  have belB : Below w''.heap.size w'' wB := belA.trans (clP.bel.mono belA.size)
  go_wp2_with fail
  refine (cloneF_any a2 n2 c2 X _ (i2.below belB) (by omega)).mono ?_
  rintro e wC ⟨aX, bX, rfl, clX⟩
  have belC : Below w''.heap.size w'' wC := belB.trans (clX.bel.mono belB.size)
  have rowP := fun h => rowIs_below (clP.row h) clX.bel (clP.row h).lt
  have rowW1 := rowIs_below (rowIs_below rowW clP.bel rowW.lt) clX.bel (Nat.lt_of_lt_of_le rowW.lt clP.bel.size)
  have rowX := clX.row
  have atX := clX.at_
  have atP := clP.at_
  clear i0' i1 i2 clP clX rowW belA belB
  go_wp2_with fail
  refine (zzLev_any w''.heap.size 0 (N) (N + 1) wd aP bP 0 n1 n1 P aX bX 0 n2 n2 X wC (fun j hj => by rw [Nat.zero_add]; exact rowW1.cell hj) (by omega) g4 g5 (Nat.le_refl _) (by omega) atP (fun i hi => by rw [Nat.zero_add]; exact (rowP (by omega)).cell hi) (by omega) atX (fun i hi => by rw [Nat.zero_add]; exact (rowX (by omega)).cell hi)).mono ?_
  rintro e wG ⟨ba, bla, vala, rfl, madeA, belG⟩
  have rowW4 := rowIs_below rowW1 belG rowW1.lt
  have rowX4 := fun h => rowIs_below (rowX h) belG (rowX h).lt
  have rowP4 := fun h => rowIs_below (rowP h) belG (rowP h).lt
  have belG' := belC.trans (belG.mono belC.size)
  clear rowW1 rowX rowP belG belC
  go_wp2
  go_loopw [13] (fun i wr => ∃ j : Nat, j ≤ N ∧ i = .int .i64 ((j : Int) + 1) ∧ ∃ n, wr = wG.drewN n) (fun i _ => N + 1 - (intOf i).toNat)
  case atStart => exact ⟨0, Nat.zero_le _, rfl, 0, rfl⟩
  case round =>
    obtain ⟨j, hj, rfl, dn, hwr⟩ := hrel
    have HWR : Hid (wr = wG.drewN dn) := hwr
    by_cases hlt : j < N
    · have cA : wr.cell? ⟨ba, j + 1, none⟩ = some (.slice (some ⟨bla (j + 1), 0, none⟩) (wd (j + 1)) (wd (j + 1))) := by
        rw [hwr]; have h := madeA.row.cell (i := j + 1) (by omega); simpa [rowV, hlt] using h
      have cW : wr.cell? ⟨w''.heap.size, j + 1, none⟩ = some (.int .i64 (wd (j + 1) : Int)) := by
        rw [hwr]; exact rowW4.cell (i := j + 1) (by omega)
      have hi1 : (j : Int) + 1 < (N : Int) + 1 := by omega
      have hlt' : (j : Int) + 1 ≤ (N : Int) := by omega
      clear hwr
      go_wp2
      go_quiet (fail)
      go_wp2
      go_roundw
      case rel => exact ⟨j + 1, by omega, by go_num, _, by rw [HWR.out]; exact World.drewN_drewN _ _ _⟩
      case measure => simp [intOf]; omega
    · have hNj : N = j := by omega
      subst hNj
      have hex : decide ((N : Int) + 1 ≤ (N : Int)) = false := decide_eq_false (by omega)
      clear hwr hlt hj
      go_wp2_with fail
      clear hex
      refine (offs_any w''.heap.size 0 (N) (N + 1) wd wr (fun j hj => by rw [HWR.out, Nat.zero_add]; exact rowW4.cell hj) (by omega) g4 (by omega)).mono ?_
      rintro e wz ⟨rfl, rowO, belO⟩
      have HB : Hid (Below w''.heap.size w'' wz) := by
        have h1 : Below w''.heap.size w'' wr := by rw [HWR.out]; exact below_drewN belG' _
        exact h1.trans (belO.mono h1.size)
      have madeA3 := (show Made wr _ ba _ _ _ wd _ bla vala _ by rw [HWR.out]; exact ⟨madeA.row, madeA.base, madeA.rows, madeA.at_, madeA.eqv⟩).below belO
      have rowW5 := (show wr.rowIs w''.heap.size 3 (N + 1) (fun i => .int .i64 (wd i : Int)) by rw [HWR.out]; exact rowW4)
      have rowW6 := rowIs_below rowW5 belO rowW5.lt
      have rowX5 : 0 < n2 → wz.rowIs bX 32 n2 (fun i => .float .f64 (X i)) := fun h => by
        have h1 : wr.rowIs bX 32 n2 (fun i => .float .f64 (X i)) := by rw [HWR.out]; exact rowX4 h
        exact rowIs_below h1 belO h1.lt
      have rowP5 : 0 < n1 → wz.rowIs bP 32 n1 (fun i => .float .f64 (P i)) := fun h => by
        have h1 : wr.rowIs bP 32 n1 (fun i => .float .f64 (P i)) := by rw [HWR.out]; exact rowP4 h
        exact rowIs_below h1 belO h1.lt
      have cO : wz.cell? ⟨wr.heap.size, k + 1, none⟩ = some (.int .i64 (off wd (k + 1) : Nat)) := rowO.cell (i := k + 1) (by omega)
      have hiO : (k : Int) + 1 < (N : Int) + 2 := by omega
      clear madeA rowW4 rowX4 rowP4 rowW5 belG' belO HWR rowO
      go_wp2_with fail
      clear cO hiO
      have hcut : off wd (k + 1) ≤ n1 := Nat.le_trans (off_mono wd (k + 1) (N + 1) (by omega)) g5
      have hsI := sliceI_lo w''.heap.size (N + 1) k M (k : Int) rfl (by have := HN.out; omega)
      obtain ⟨aU, hsF, haU⟩ := sliceF_lo aP n1 (off wd (k + 1)) (n1 - off wd (k + 1)) (off wd (k + 1) : Nat) rfl (by omega)
      have cAk : wz.cell? ⟨ba, k, none⟩ = some (.slice (some ⟨bla k, 0, none⟩) (wd k) (wd k)) := by
        have h := madeA3.row.cell (i := k) (by omega)
        rw [if_pos (by omega), rowV, if_neg (by omega)] at h
        exact h
      have hltba := madeA3.row.lt
      have HC : Hid (Calls Try.prog 12 #[.slice (some ⟨w''.heap.size, k, none⟩) (M + 1) (M + 1), .slice aU (n1 - off wd (k + 1)) (n1 - off wd (k + 1)), .slice (some ⟨bla k, 0, none⟩) (wd k) (wd k)] wz.drew fun e w' => ∃ bu blu valu,
          e = .returned (.slice (some ⟨bu, 0, none⟩) (M + 1) (M + 1)) ∧ Made w' wz.drew.heap.size bu (M + 1) (M + 1) (M + 1) (fun j => wd (k + j)) (.slice (some ⟨bla k, 0, none⟩) (wd k) (wd k)) blu valu (lev (fun j => wd (k + j)) M (fun i => P (off wd (k + 1) + i)) (vala k)) ∧ Below wz.drew.heap.size wz.drew w') := by
        have hN := HN.out
        refine zzLev_any w''.heap.size k M (M + 1) (fun j => wd (k + j)) aU bP (off wd (k + 1)) (n1 - off wd (k + 1)) (n1 - off wd (k + 1)) (fun i => P (off wd (k + 1) + i)) (some ⟨bla k, 0, none⟩) (bla k) 0 (wd k) (wd k) (vala k) wz.drew
          (fun j hj => rowW6.cell (i := k + j) (by omega)) (by omega) (fun j hj => g4 (k + j) (by omega)) ?_ (Nat.le_refl _) (by omega) (fun h => haU bP h (atP (by omega))) (fun i hi => (rowP5 (by omega)).cell (i := off wd (k + 1) + i) (by omega)) (Nat.le_refl _) (fun _ => rfl) (fun i hi => by rw [Nat.zero_add]; exact (madeA3.rows k hk1 (by omega)).cell hi)
        have h := off_split wd k M
        rw [← hN] at h
        omega
      have hkI : (k : Int) < (N : Int) + 1 := by omega
      go_region_held (fun w' => w'.cell? ⟨ba, k, none⟩ = some (.slice (some ⟨bla k, 0, none⟩) (wd k) (wd k))) (first | exact cAk | exact (belU.cell hltba).trans cAk) ((go_at_call 12; refine HC.out.mono ?_; rintro e wu ⟨bu, blu, valu, rfl, madeU, belU⟩))
      have made4 := (show Made wz.drew _ ba _ _ _ wd _ bla vala _ from ⟨madeA3.row, madeA3.base, madeA3.rows, madeA3.at_, madeA3.eqv⟩).below belU
      have rowW7 := rowIs_below (show wz.drew.rowIs w''.heap.size 3 (N + 1) (fun i => .int .i64 (wd i : Int)) from rowW6) belU rowW6.lt
      have rowX6 : 0 < n2 → wu.rowIs bX 32 n2 (fun i => .float .f64 (X i)) := fun h => rowIs_below (show wz.drew.rowIs bX 32 n2 (fun i => .float .f64 (X i)) from rowX5 h) belU (rowX5 h).lt
      have rowP6 : 0 < n1 → wu.rowIs bP 32 n1 (fun i => .float .f64 (P i)) := fun h => rowIs_below (show wz.drew.rowIs bP 32 n1 (fun i => .float .f64 (P i)) from rowP5 h) belU (rowP5 h).lt
      have HB2 : Hid (Below w''.heap.size w'' wu) := (HB.out.drew).trans (belU.mono HB.out.size)
      have hne1 : (((M : Int) + 1) != (N : Int) - (k : Int) + 1) = false := by have := HN.out; simp; omega
      have HEU : Hid (∀ j, j < M + 1 → ∀ i, i < wd (k + j) → Eqv (lev (fun j => wd (k + j)) M (fun i => P (off wd (k + 1) + i)) (vala k) j i) (lev wd N P X (k + j) i)) := fun j hj i hi => by
        have hN := HN.out
        subst hN
        exact lev_upper (fun i hi => madeA3.eqv k hk1 (by omega) i hi) j i hi
      clear HC madeA3 rowW6 rowX5 rowP5 HB belU hsI hsF haU cAk hltba hkI
      go_wp2
      clear hne1
      go_loopw [17] (fun i wr => ∃ j : Nat, j ≤ M + 1 ∧ i = .int .i64 (j : Int) ∧ ∃ n, wr = wu.drewN n) (fun i _ => M + 1 - (intOf i).toNat)
      case atStart => exact ⟨0, Nat.zero_le _, rfl, 0, rfl⟩
      case round =>
        obtain ⟨j, hj, rfl, dj, hwj⟩ := hrel
        have HWJ : Hid (wr = wu.drewN dj) := hwj
        have hMN : k + M = N := HN.out.symm
        by_cases hlt : j < M + 1
        · obtain ⟨alU, bbU, ooU, clU, fU, cU, atU, celU, eqU⟩ := madeU.full (bx := bla k) (ox := 0) (X := vala k) (fun i => rfl) (fun _ => rfl) (fun i hi => by rw [Nat.zero_add]; exact (made4.rows k hk1 (by omega)).cell hi) j hlt (Nat.le_refl _) hlt
          obtain ⟨alA, bbA, ooA, clA, fA, cA, atA, celA, eqA⟩ := made4.full (bx := bX) (ox := 0) (fun i => rfl) atX (fun i hi => by rw [Nat.zero_add]; exact (rowX6 (by omega)).cell hi) (k + j) (by omega) (Nat.le_refl _) (by omega)
          have en : (if j = 0 then wd k else wd (k + j)) = wd (k + j) := by by_cases e : j = 0 <;> simp [e]
          have en2 : (if k + j = 0 then n2 else wd (k + j)) = wd (k + j) := by rw [if_neg (by omega)]
          rw [en] at cU atU celU eqU
          rw [en2] at cA atA celA eqA
          have HC : Hid (∀ x, Calls Try.prog 14 #[.slice alU (wd (k + j)) clU, .slice alA (wd (k + j)) clA] (wr.drewN x) fun e w'' => e = .returned (.bool true) ∧ ∃ n, w'' = wr.drewN n) := fun x =>
            (sameLevel_true alU bbU ooU (wd (k + j)) clU fU alA bbA ooA clA fA (wr.drewN x) (g4 (k + j) (by omega)) atU atA (fun i hi => by rw [hwj]; exact celU i hi) (fun i hi => by rw [hwj]; exact celA i hi) (fun i hi => (eqU i hi).trans ((HEU.out j hlt i hi).trans (eqA i hi).symm))).mono (fun e w' h => ⟨h.1, by obtain ⟨n', rfl⟩ := h.2; exact ⟨_, World.drewN_drewN _ _ _⟩⟩)
          have cU' : wr.cell? ⟨bu, j, none⟩ = some (.slice alU (wd (k + j)) clU) := by rw [hwj]; exact cU
          have cA' : wr.cell? ⟨ba, k + j, none⟩ = some (.slice alA (wd (k + j)) clA) := by rw [hwj]; exact cA
          have hi1 : (j : Int) < (M : Int) + 1 := by omega
          have hi2 : (k : Int) + (j : Int) < (N : Int) + 1 := by omega
          clear cU cA atU atA celU celA eqU eqA hwj en en2 hMN
          go_wp2
          go_quiet ((go_at_call 14; exact HC.out _))
          go_wp2
          go_roundw
          case rel => exact ⟨j + 1, by omega, by go_num, _, by rw [HWJ.out]; exact World.drewN_drewN _ _ _⟩
          case measure => simp [intOf]; omega
        · have hex : decide ((j : Int) < (M : Int) + 1) = false := decide_eq_false (by omega)
          have made5 := drewMade made4 dj
          rw [← hwj] at made5
          have rowW8 : wr.rowIs w''.heap.size 3 (N + 1) (fun i => .int .i64 (wd i : Int)) := by rw [hwj]; exact rowW7
          have rowX7 : 0 < n2 → wr.rowIs bX 32 n2 (fun i => .float .f64 (X i)) := fun h => by rw [hwj]; exact rowX6 h
          have rowP7 : 0 < n1 → wr.rowIs bP 32 n1 (fun i => .float .f64 (P i)) := fun h => by rw [hwj]; exact rowP6 h
          have HB3 : Hid (Below w''.heap.size w'' wr) := by rw [hwj]; exact below_drewN HB2.out _
          clear hwj made4 rowW7 rowX6 rowP6 HB2 madeU HEU HWJ
          go_wp2_with fail
          clear hex
          have hsI := sliceI_hi w''.heap.size (N + 1) (k + 1) ((k : Int) + 1) (by omega) (by omega) (by omega)
          have hsI2 := sliceI_hi w''.heap.size (N + 1) (k + 1) (IntKind.i64.wrap ((k : Int) + 1)) (by rw [IntKind.wrap_i64]; omega) (by omega) (by omega)
          obtain ⟨aL, hsF, haL⟩ := sliceF_hi aP n1 (off wd (k + 1)) (off wd (k + 1) : Nat) rfl hcut
          have HC : Hid (Calls Try.prog 12 #[.slice (some ⟨w''.heap.size, 0, none⟩) (k + 1) (N + 1), .slice aL (off wd (k + 1)) n1, .slice aX n2 n2] wr.drew fun e w' => ∃ bL blL valL,
              e = .returned (.slice (some ⟨bL, 0, none⟩) (k + 1) (k + 1)) ∧ Made w' wr.drew.heap.size bL (k + 1) (k + 1) (k + 1) wd (.slice aX n2 n2) blL valL (lev wd k P X) ∧ Below wr.drew.heap.size wr.drew w') :=
            zzLev_any w''.heap.size 0 k (N + 1) wd aL bP 0 (off wd (k + 1)) n1 P aX bX 0 n2 n2 X wr.drew
              (fun j hj => by rw [Nat.zero_add]; exact rowW8.cell (i := j) (by omega)) (by omega) (fun j hj => g4 j (by omega)) (Nat.le_refl _) hcut (by omega) (fun h => haL bP h (atP (by omega))) (fun i hi => by rw [Nat.zero_add]; exact (rowP7 (by omega)).cell (i := i) (by omega)) (by omega) atX (fun i hi => by rw [Nat.zero_add]; exact (rowX7 (by omega)).cell hi)
          have hkI : (k : Int) + 1 ≤ (N : Int) + 1 := by omega
          have hcI : ((off wd (k + 1) : Nat) : Int) ≤ (n1 : Int) := by omega
          go_region_held (fun _ => True) (trivial) ((go_at_call 12; refine HC.out.mono ?_; rintro e wl ⟨bL, blL, valL, rfl, madeL, belL⟩))
          have made6 := (show Made wr.drew _ ba _ _ _ wd _ bla vala _ from ⟨made5.row, made5.base, made5.rows, made5.at_, made5.eqv⟩).below belL
          have rowX8 : 0 < n2 → wl.rowIs bX 32 n2 (fun i => .float .f64 (X i)) := fun h => rowIs_below (show wr.drew.rowIs bX 32 n2 (fun i => .float .f64 (X i)) from rowX7 h) belL (rowX7 h).lt
          have HB4 : Hid (Below w''.heap.size w'' wl) := (HB3.out.drew).trans (belL.mono HB3.out.size)
          have HLL : Hid (∀ i, lev wd N P X k i = act N k (lev wd k P X k i)) := fun i => by
            obtain ⟨k', hk'⟩ : ∃ k', k = k' + 1 := ⟨k - 1, by omega⟩
            subst hk'
            exact lev_lower_last hkN i
          clear HC made5 rowW8 rowX7 rowP7 HB3 belL hsI hsI2 hsF haL hkI hcI
          go_wp2
          go_loopw [19] (fun i wr => ∃ j : Nat, j ≤ k ∧ i = .int .i64 (j : Int) ∧ ∃ n, wr = wl.drewN n) (fun i _ => k - (intOf i).toNat)
          case atStart => exact ⟨0, Nat.zero_le _, rfl, 0, rfl⟩
          case round =>
            obtain ⟨m, hm, rfl, dm, hwm⟩ := hrel
            have HWM : Hid (wr = wl.drewN dm) := hwm
            by_cases hmk : m < k
            · obtain ⟨alU, bbU, ooU, clU, fU, cU, atU, celU, eqU⟩ := madeL.full (bx := bX) (ox := 0) (fun i => rfl) atX (fun i hi => by rw [Nat.zero_add]; exact (rowX8 (by omega)).cell hi) m (by omega) (Nat.le_refl _) (by omega)
              obtain ⟨alA, bbA, ooA, clA, fA, cA, atA, celA, eqA⟩ := made6.full (bx := bX) (ox := 0) (fun i => rfl) atX (fun i hi => by rw [Nat.zero_add]; exact (rowX8 (by omega)).cell hi) m (by omega) (Nat.le_refl _) (by omega)
              have hnm : (if m = 0 then n2 else wd m) ≤ 1048576 := by split <;> first | omega | exact g4 m (by omega)
              generalize (if m = 0 then n2 else wd m) = nm at *
              have HC : Hid (∀ x, Calls Try.prog 14 #[.slice alU nm clU, .slice alA nm clA] (wr.drewN x) fun e w'' => e = .returned (.bool true) ∧ ∃ n, w'' = wr.drewN n) := fun x =>
                (sameLevel_true alU bbU ooU nm clU fU alA bbA ooA clA fA (wr.drewN x) hnm atU atA (fun i hi => by rw [hwm]; exact celU i hi) (fun i hi => by rw [hwm]; exact celA i hi) (fun i hi => (eqU i hi).trans ((by rw [lev_lower hkN m hmk i]; exact Eqv.refl _ : Eqv (lev wd k P X m i) (lev wd N P X m i)).trans (eqA i hi).symm))).mono (fun e w' h => ⟨h.1, by obtain ⟨n', rfl⟩ := h.2; exact ⟨_, World.drewN_drewN _ _ _⟩⟩)
              have cU' : wr.cell? ⟨bL, m, none⟩ = some (.slice alU nm clU) := by rw [hwm]; exact cU
              have cA' : wr.cell? ⟨ba, m, none⟩ = some (.slice alA nm clA) := by rw [hwm]; exact cA
              have hi1 : (m : Int) < (k : Int) + 1 := by omega
              have hi2 : (m : Int) < (N : Int) + 1 := by omega
              clear cU cA atU atA celU celA eqU eqA hwm
              go_wp2
              go_quiet ((go_at_call 14; exact HC.out _))
              go_wp2
              go_roundw
              case rel => exact ⟨m + 1, by omega, by go_num, _, by rw [HWM.out]; exact World.drewN_drewN _ _ _⟩
              case measure => simp [intOf]; omega
            · have hex : decide ((m : Int) < (k : Int)) = false := decide_eq_false (by omega)
              have hexn : decide (m < k) = false := decide_eq_false (by omega)
              have cL : ∀ n, (wl.drewN n).cell? ⟨bL, k, none⟩ = some (.slice (some ⟨blL k, 0, none⟩) (wd k) (wd k)) := fun n => by
                have h := madeL.row.cell (i := k) (by omega)
                rw [if_pos (by omega), rowV, if_neg (by omega)] at h
                exact h
              have cA : ∀ n, (wl.drewN n).cell? ⟨ba, k, none⟩ = some (.slice (some ⟨bla k, 0, none⟩) (wd k) (wd k)) := fun n => by
                have h := made6.row.cell (i := k) (by omega)
                rw [if_pos (by omega), rowV, if_neg (by omega)] at h
                exact h
              have cL1 : wr.cell? ⟨bL, k, none⟩ = some (.slice (some ⟨blL k, 0, none⟩) (wd k) (wd k)) := by rw [hwm]; exact cL dm
              have cA1 : wr.cell? ⟨ba, k, none⟩ = some (.slice (some ⟨bla k, 0, none⟩) (wd k) (wd k)) := by rw [hwm]; exact cA dm
              have HCL := hid cL
              have HCA := hid cA
              have hi1 : (k : Int) < (k : Int) + 1 := by omega
              have hi2 : (k : Int) < (N : Int) + 1 := by omega
              clear hwm cL cA
              go_wp2
              clear hex hexn
              go_quiet (fail)
              go_wp2
              clear cL1 cA1
              go_loopw [20] (fun i wi => ∃ j : Nat, j ≤ wd k ∧ i = .int .i64 (j : Int) ∧ ∃ n, wi = wl.drewN n) (fun i _ => wd k - (intOf i).toNat)
              case atStart => exact ⟨0, Nat.zero_le _, rfl, _, by rw [HWM.out]; exact World.drewN_drewN _ _ _⟩
              case round =>
                clear HWM
                obtain ⟨j, hj, rfl, dj, hwj⟩ := hrel
                have HWJ : Hid (wr = wl.drewN dj) := hwj
                have cL1 : wr.cell? ⟨bL, k, none⟩ = some (.slice (some ⟨blL k, 0, none⟩) (wd k) (wd k)) := by rw [hwj]; exact HCL.out dj
                have cA1 : wr.cell? ⟨ba, k, none⟩ = some (.slice (some ⟨bla k, 0, none⟩) (wd k) (wd k)) := by rw [hwj]; exact HCA.out dj
                have hwk := g4 k (by omega)
                by_cases hjk : j < wd k
                · have vL : wr.cell? ⟨blL k, j, none⟩ = some (.float .f64 (valL k j)) := by rw [hwj]; exact (madeL.rows k hk1 (by omega)).cell hjk
                  have vA : ∀ x, (wr.drewN x).cell? ⟨bla k, j, none⟩ = some (.float .f64 (vala k j)) := fun x => by rw [hwj]; exact (made6.rows k hk1 (by omega)).cell hjk
                  have vA0 : wr.cell? ⟨bla k, j, none⟩ = some (.float .f64 (vala k j)) := vA 0
                  have eL := madeL.eqv k hk1 (by omega) j hjk
                  have eA := made6.eqv k hk1 (by omega) j hjk
                  rw [HLL.out] at eA
                  have hjI : (j : Int) < (wd k : Int) := by omega
                  clear hwj
                  by_cases hkn : k < N
                  · have hknI : (k : Int) < (N : Int) := by omega
                    rw [act, if_pos hkn] at eA
                    have HE : Hid (∀ r, Eqv r (relu (valL k j)) → Eqv (vala k j) r) := fun r hr => eA.trans ((relu_eqv eL).symm.trans hr.symm)
                    clear eA eL vA
                    go_wp2_with fail
                    refine (relu_any _ _).mono ?_
                    rintro e wR ⟨r, rfl, hr, rfl⟩
                    go_wp2_with fail
                    refine (sameF_true _ _ (HE.out r hr) _).mono ?_
                    rintro e wS ⟨rfl, dS, hwS⟩
                    have HWS := hid hwS
                    clear hwS
                    go_wp2
                    go_roundw
                    case rel => exact ⟨j + 1, by omega, by go_num, _, by rw [HWS.out, HWJ.out]; exact World.drewN_drewN _ _ _⟩
                    case measure => simp [intOf]; omega
                  · have hknI : decide ((k : Int) < (N : Int)) = false := decide_eq_false (by omega)
                    have hknn : decide (k < N) = false := decide_eq_false (by omega)
                    rw [act, if_neg hkn] at eA
                    have HE : Hid (Eqv (vala k j) (valL k j)) := eA.trans eL.symm
                    clear eA eL vA
                    go_wp2_with fail
                    refine (sameF_true _ _ HE.out _).mono ?_
                    rintro e wS ⟨rfl, dS, hwS⟩
                    have HWS := hid hwS
                    clear hwS
                    go_wp2
                    go_roundw
                    case rel => exact ⟨j + 1, by omega, by go_num, _, by rw [HWS.out, HWJ.out]; exact World.drewN_drewN _ _ _⟩
                    case measure => simp [intOf]; omega
                · have hex : decide ((j : Int) < (wd k : Int)) = false := decide_eq_false (by omega)
                  clear hwj
                  go_wp2
                  go_ret
                  exact ⟨rfl, by rw [HWJ.out]; exact below_drewN HB4.out _⟩

end Go.Proofs.Qxb6603460a.fnDenseLevelsSplitAtLevel
