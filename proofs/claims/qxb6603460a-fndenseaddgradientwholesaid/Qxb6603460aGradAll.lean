import Derived.Test.Qxb6603460aGradZZ
import Derived.Deep.RegionHeld
namespace Go.Proofs.Qxb6603460a.fnDenseAddGradientWhole
open Go.ChangeShapes Go.WideShapes Go.ChangeAt Go.RowKit
set_option linter.unusedVariables false

theorem hid {p : Prop} (h : p) : Hid p := h

theorem drewMade {w : World} {B ba L lr l : Nat} {wd : Nat → Nat} {xv : Value} {bl : Nat → Nat} {val lv : Nat → Nat → Nat} (h : Made w B ba L lr l wd xv bl val lv) (n : Nat) : Made (w.drewN n) B ba L lr l wd xv bl val lv :=
  ⟨h.row, h.base, h.rows, h.at_, h.eqv⟩

theorem z_bias {wd : Nat → Nat} {N : Nat} {P X T Z : Nat → Nat} (h : ∀ k, k < off wd (N + 1) → NEq (Z k) (inc wd N P X T k)) (q i : Nat) (hq : q < N) (hi : i < wd (q + 1)) :
    NEq (Z (off wd (q + 1) + wd (q + 1) * wd q + i)) (dlt wd N P X T (q + 1) i) := by
  have ho := off_succ wd q
  have hm : wd (q + 1) * (wd q + 1) = wd (q + 1) * wd q + wd (q + 1) := Nat.mul_succ _ _
  have hl := off_mono wd (q + 2) (N + 1) (by omega)
  have h1 := h (off wd (q + 1) + wd (q + 1) * wd q + i) (by omega)
  unfold inc at h1
  rw [gD_bias wd _ _ N q i hq hi] at h1
  exact h1

theorem z_weight {wd : Nat → Nat} {N : Nat} {P X T Z : Nat → Nat} (h : ∀ k, k < off wd (N + 1) → NEq (Z k) (inc wd N P X T k)) (q i j : Nat) (hq : q < N) (hi : i < wd (q + 1)) (hj : j < wd q) :
    NEq (Z (off wd (q + 1) + i * wd q + j)) (can .mul (dlt wd N P X T (q + 1) i) (lev wd N P X q j)) := by
  have ho := off_succ wd q
  have hm : wd (q + 1) * (wd q + 1) = wd (q + 1) * wd q + wd (q + 1) := Nat.mul_succ _ _
  have hl := off_mono wd (q + 2) (N + 1) (by omega)
  have hr := row_lt hi hj
  rw [Nat.add_assoc]
  have h1 := h (off wd (q + 1) + (i * wd q + j)) (by omega)
  unfold inc at h1
  rw [gD_weight wd _ _ N q i j hq hi hj] at h1
  exact h1

set_option maxHeartbeats 8000000 in
set_option maxRecDepth 100000 in
theorem walk (a0 : Option Addr) (n0 c0 : Nat) (z : Nat → Int) (a1 : Option Addr) (n1 c1 : Nat) (P : Nat → Nat) (a2 : Option Addr) (n2 c2 : Nat) (G : Nat → Nat) (a3 : Option Addr) (n3 c3 : Nat) (X : Nat → Nat) (a4 : Option Addr) (n4 c4 : Nat) (T : Nat → Nat) (w : World)
    (i0 : IIn w a0 n0 c0 z) (i1 : FIn w a1 n1 c1 P) (i2 : FIn w a2 n2 c2 G) (i3 : FIn w a3 n3 c3 X) (i4 : FIn w a4 n4 c4 T) :
    Calls Try.prog 6 #[.slice a0 n0 c0, .slice a1 n1 c1, .slice a2 n2 c2, .slice a3 n3 c3, .slice a4 n4 c4] w fun e w' => e = .returned (.bool true) ∧ Below w.heap.size w w' := by
  have hadd := fun wx x y => run_add (P := Try.prog) wx 32 x y
  have hmul := fun wx x y => run_mul (P := Try.prog) wx 32 x y
  have hsub := fun wx x y => run_sub (P := Try.prog) wx 32 x y
  by_cases hlen : 1048576 < (n0 : Int) + (n1 : Int) + (n2 : Int) + (n3 : Int) + (n4 : Int)
  · go_enter Try.func6, Try.ntmps6
    go_wp2_with fail
    refine (bytes21_no a0 n0 c0 a1 n1 c1 a2 n2 c2 a3 n3 c3 a4 n4 c4 w hlen).mono ?_
    rintro e w' ⟨rfl, rfl⟩
    go_wp2
    go_ret
    exact ⟨rfl, Below.refl _ _⟩
  have hlen' : (n0 : Int) + (n1 : Int) + (n2 : Int) + (n3 : Int) + (n4 : Int) ≤ 1048576 := by omega
  go_enter Try.func6, Try.ntmps6
  go_wp2_with fail
  refine (bytes21_yes a0 n0 c0 a1 n1 c1 a2 n2 c2 a3 n3 c3 a4 n4 c4 w hlen').mono ?_
  rintro e w' ⟨rfl, rfl⟩
  by_cases t0 : 131072 < (n0 : Int)
  · go_wp2
    go_ret
    exact ⟨rfl, Below.refl _ _⟩
  have t0' : decide (131072 < (n0 : Int)) = false := decide_eq_false t0
  by_cases t1 : 131072 < (n1 : Int)
  · go_wp2
    go_ret
    exact ⟨rfl, Below.refl _ _⟩
  have t1' : decide (131072 < (n1 : Int)) = false := decide_eq_false t1
  by_cases t2 : 131072 < (n2 : Int)
  · go_wp2
    go_ret
    exact ⟨rfl, Below.refl _ _⟩
  have t2' : decide (131072 < (n2 : Int)) = false := decide_eq_false t2
  by_cases t21 : 131072 < (n3 : Int)
  · go_wp2
    go_ret
    exact ⟨rfl, Below.refl _ _⟩
  have t21' : decide (131072 < (n3 : Int)) = false := decide_eq_false t21
  by_cases t22 : 131072 < (n4 : Int)
  · go_wp2
    go_ret
    exact ⟨rfl, Below.refl _ _⟩
  have t22' : decide (131072 < (n4 : Int)) = false := decide_eq_false t22
  by_cases t3 : 1048576 < 8 * ((n0 : Int) + (n1 : Int) + (n2 : Int) + (n3 : Int) + (n4 : Int))
  · go_wp2
    go_ret
    exact ⟨rfl, Below.refl _ _⟩
  have t3' : decide (1048576 < 8 * ((n0 : Int) + (n1 : Int) + (n2 : Int) + (n3 : Int) + (n4 : Int))) = false := decide_eq_false t3
  go_wp2_with fail
  refine (total_any a0 n0 c0 n1 z _ i0 (by omega) (by omega)).mono ?_
  rintro e w'' ⟨tot, ok, rfl, rfl, hgood⟩
  cases ok with
  | false =>
    go_wp2
    go_ret
    exact ⟨rfl, Below.refl _ _⟩
  | true =>
  obtain ⟨hg, rfl⟩ := hgood rfl
  clear hgood
  obtain ⟨N, hN⟩ : ∃ N, n0 = N + 1 := ⟨n0 - 1, by have := hg.n1; omega⟩
  subst hN
  obtain ⟨g1, g2, g3, g4, g5⟩ := hg
  generalize hwd : toW z = wd at *
  clear hwd
  have hcw : ∃ b o, a0 = some ⟨b, o, none⟩ ∧ ∀ i, i < N + 1 → w''.cell? ⟨b, o + i, none⟩ = some (.int .i64 (wd i : Int)) := by
    rcases i0.at_ with h | h | ⟨b, o, h, h2⟩
    · exact absurd (i0.nil h) (by omega)
    · omega
    · exact ⟨b, o, h, fun i hi => by rw [← g3 i hi]; exact h2 i hi⟩
  have i0' : IIn w'' a0 (N + 1) c0 (fun j => (wd j : Int)) := by
    obtain ⟨b, o, h, h2⟩ := hcw
    exact ⟨i0.le, .inr (.inr ⟨b, o, h, h2⟩), i0.nil⟩
  obtain ⟨b0, o0, h0, hcw0⟩ := hcw
  subst h0
  have hcz := hcw0 0 (by omega)
  simp only [Nat.add_zero] at hcz
  have hb0 : b0 < w''.heap.size := cell_lt hcz
  have hcN := hcw0 N (by omega)
  clear i0 g3 hcw0
  by_cases t4 : (n2 : Int) < (off wd (N + 1) : Nat)
  · have t4n : n2 < off wd (N + 1) := by omega
    go_wp2
    go_ret
    exact ⟨rfl, Below.refl _ _⟩
  have t4' : decide ((n2 : Int) < (off wd (N + 1) : Nat)) = false := decide_eq_false t4
  have t4n : decide (n2 < off wd (N + 1)) = false := decide_eq_false (by omega)
  by_cases t5 : n3 = wd 0
  case neg =>
    have t5' : ((n3 : Int) != (wd 0 : Int)) = true := by simp; omega
    clear t5
    go_wp2
    go_ret
    exact ⟨rfl, Below.refl _ _⟩
  subst t5
  by_cases t6 : (n4 : Int) < (wd N : Int)
  · have t6n : n4 < wd N := by omega
    go_wp2
    go_ret
    exact ⟨rfl, Below.refl _ _⟩
  have t6' : decide ((n4 : Int) < (wd N : Int)) = false := decide_eq_false t6
  have t6n : decide (n4 < wd N) = false := decide_eq_false (by omega)
  go_wp2_with fail
  clear t6' t6n t4' t4n t3' t22' t21' t2' t1' t0'
  have htot : off wd (N + 1) ≤ n2 := by omega
  have htt : wd N ≤ n4 := by omega
  have hn1 : n1 ≤ 131072 := by omega
  have hn2 : n2 ≤ 131072 := by omega
  have hn4 : n4 ≤ 131072 := by omega
  have hw0 : wd 0 ≤ 131072 := by omega
  clear t0 t1 t2 t21 t22 t3 t4 t6 hlen hlen' hcz hcN
  refine (cloneI_any _ (N + 1) c0 (fun j => (wd j : Int)) _ i0' (by omega) (by omega)).mono ?_
  rintro e wA ⟨rfl, rowW, belA⟩
  have hsA : w''.heap.size < wA.heap.size := rowW.lt
  go_wp2_with fail
  refine (cloneF_any a1 n1 c1 P _ (i1.below belA) hn1).mono ?_
  rintro e wB ⟨aP, bP', rfl, clP⟩
  obtain ⟨bP, sP, hbP⟩ := clP.pick w''.heap.size hsA
  have belB : Below w''.heap.size w'' wB := belA.trans (clP.bel.mono belA.size)
  have rowWB := rowIs_below rowW clP.bel rowW.lt
  have hsB := clP.bel.size
  clear clP rowW belA i0' i1
  go_wp2_with fail
  refine (cloneF_any a2 n2 c2 G _ (i2.below belB) hn2).mono ?_
  rintro e wC ⟨aG, bG', rfl, clG⟩
  obtain ⟨bG, sG, hbG⟩ := clG.pick w''.heap.size (by omega)
  have belC : Below w''.heap.size w'' wC := belB.trans (clG.bel.mono belB.size)
  have rowWC := rowIs_below rowWB clG.bel rowWB.lt
  have sPC := sP.below clG.bel
  have hsC := clG.bel.size
  clear clG rowWB belB sP i2
  go_wp2_with fail
  refine (cloneF_any a3 (wd 0) c3 X _ (i3.below belC) hw0).mono ?_
  rintro e wD ⟨aX, bX', rfl, clX⟩
  obtain ⟨bX, sX, hbX⟩ := clX.pick w''.heap.size (by omega)
  have belD : Below w''.heap.size w'' wD := belC.trans (clX.bel.mono belC.size)
  have rowWD := rowIs_below rowWC clX.bel rowWC.lt
  have sPD := sPC.below clX.bel
  have sGD := sG.below clX.bel
  have hsD := clX.bel.size
  clear clX rowWC belC sPC sG i3
  go_wp2_with fail
  refine (cloneF_any a4 n4 c4 T _ (i4.below belD) hn4).mono ?_
  rintro e wE ⟨aT, bT', rfl, clT⟩
  obtain ⟨bT, sT, hbT⟩ := clT.pick w''.heap.size (by omega)
  have belE : Below w''.heap.size w'' wE := belD.trans (clT.bel.mono belD.size)
  have rowWE := rowIs_below rowWD clT.bel rowWD.lt
  have sPE := sPD.below clT.bel
  have sGE := sGD.below clT.bel
  have sXE := sX.below clT.bel
  have hsE := clT.bel.size
  clear clT rowWD belD sPD sGD sX i4
  go_wp2_with fail
  refine (cloneF_any aG n2 n2 G _ ⟨Nat.le_refl _, by
    by_cases h0 : 0 < n2
    · exact .inr (.inr ⟨bG, 0, sGE.at_ h0, sGE.cell0⟩)
    · exact .inr (.inl (by omega)), fun h => by
    by_cases h0 : 0 < n2
    · rw [sGE.at_ h0] at h; cases h
    · omega⟩ hn2).mono ?_
  rintro e wF ⟨ag, bg', rfl, clg⟩
  obtain ⟨bg, hag, rowg, hbgl, hbg⟩ := clg.pickRow b0 (by omega)
  have belF : Below w''.heap.size w'' wF := belE.trans (clg.bel.mono belE.size)
  have rowWF := rowIs_below rowWE clg.bel rowWE.lt
  have sPF := sPE.below clg.bel
  have sGF := sGE.below clg.bel
  have sXF := sXE.below clg.bel
  have sTF := sT.below clg.bel
  have l1 := sPE.lt
  have l2 := sGE.lt
  have l3 := sXE.lt
  have l4 := sT.lt
  have hsF := clg.bel.size
  have lw := rowWE.lt
  clear clg rowWE belE sPE sGE sXE sT
  go_wp2_with fail
  refine (zzGrad_any w''.heap.size 0 N (N + 1) wd aP bP 0 n1 n1 P ag bg n2 n2 G aX bX 0 (wd 0) X aT bT 0 n4 n4 T wF (fun j hj => by rw [Nat.zero_add]; exact rowWF.cell hj) g2 g4 g5 (Nat.le_refl _) hn1 sPF.at_ sPF.cell0 htot (Nat.le_refl _) hn2 hag rowg sXF.at_ sXF.cell0 htt sTF.at_ sTF.cell0 hbgl (by omega) (by omega) (by omega) (by omega)).mono ?_
  rintro e wG ⟨rfl, gv, rowgv, hgv1, hgv2, butG⟩
  have belG : Below w''.heap.size w'' wG := belF.trans (butG.below belF.size (by omega))
  have rowWG := butG.row rowWF (by omega) (by omega)
  have sPG := sPF.but butG (by omega)
  have sGG := sGF.but butG (by omega)
  have sXG := sXF.but butG (by omega)
  have sTG := sTF.but butG (by omega)
  have hsG := butG.size
  clear butG belF rowWF sPF sGF sXF sTF rowg
  have hmk := makeF n2 (by omega)
  go_wp2_with fail
  have hne : wG.heap.size ≠ bg := by omega
  have rowz := World.rowIs_made wG (.float .f64 0) n2 32
  have belz : Below wG.heap.size wG (wG.alloc (.cells (madeCells #[.float .f64 0] n2) 32)) := (Below.refl _ _).alloc (Nat.le_refl _) _
  have sPz := sPG.below belz
  have sGz := sGG.below belz
  have sXz := sXG.below belz
  have sTz := sTG.below belz
  have rowWz := rowIs_below rowWG belz rowWG.lt
  have rowgz := fun h => rowIs_below (rowgv h) belz (by omega)
  have hzs : (wG.alloc (.cells (madeCells #[.float .f64 0] n2) 32)).heap.size = wG.heap.size + 1 := by simp
  have belGz : Below w''.heap.size w'' (wG.alloc (.cells (madeCells #[.float .f64 0] n2) 32)) := belG.trans (belz.mono belG.size)
  generalize hwz : wG.alloc (.cells (madeCells #[.float .f64 0] n2) 32) = wz at *
  clear hmk hwz belz sPG sGG sXG sTG rowWG belG rowgv
  refine (zzGrad_any w''.heap.size 0 N (N + 1) wd aP bP 0 n1 n1 P (some ⟨wG.heap.size, 0, none⟩) wG.heap.size n2 n2 (fun _ => 0) aX bX 0 (wd 0) X aT bT 0 n4 n4 T wz (fun j hj => by rw [Nat.zero_add]; exact rowWz.cell hj) g2 g4 g5 (Nat.le_refl _) hn1 sPz.at_ sPz.cell0 htot (Nat.le_refl _) hn2 (fun _ => rfl) (fun _ => rowz) sXz.at_ sXz.cell0 htt sTz.at_ sTz.cell0 (by omega) (by omega) (by omega) (by omega) (by omega)).mono ?_
  rintro e wH ⟨rfl, Z, rowZ, hZ1, hZ2, butH⟩
  have belH : Below w''.heap.size w'' wH := belGz.trans (butH.below belGz.size (by omega))
  have rowWH := butH.row rowWz (by omega) (by omega)
  have sPH := sPz.but butH (by omega)
  have sGH := sGz.but butH (by omega)
  have sXH := sXz.but butH (by omega)
  have sTH := sTz.but butH (by omega)
  have rowgH := fun h => butH.row (rowgz h) (by omega) (by omega)
  have hsH := butH.size
  clear butH belGz rowWz sPz sGz sXz sTz rowgz rowz
  go_wp2_with fail
  refine (zzLev_any w''.heap.size 0 N (N + 1) wd aP bP 0 n1 n1 P aX bX 0 (wd 0) (wd 0) X wH (fun j hj => by rw [Nat.zero_add]; exact rowWH.cell hj) g2 g4 g5 (Nat.le_refl _) hn1 sPH.at_ sPH.cell0 (Nat.le_refl _) sXH.at_ sXH.cell0).mono ?_
  rintro e wI ⟨ba, bl, val, rfl, madeI, belHI⟩
  have belI : Below w''.heap.size w'' wI := belH.trans (belHI.mono belH.size)
  have rowWI := rowIs_below rowWH belHI rowWH.lt
  have sPI := sPH.below belHI
  have sGI := sGH.below belHI
  have sXI := sXH.below belHI
  have sTI := sTH.below belHI
  have rowgI := fun h => rowIs_below (rowgH h) belHI (rowgH h).lt
  have rowZI := fun h => rowIs_below (rowZ h) belHI (rowZ h).lt
  clear belHI belH rowWH sPH sGH sXH sTH rowgH rowZ hsH hzs hsG hsF hsE hsD hsC hsB hsA hbgl l1 l2 l3 l4 lw hbP hbG hbX hbT hbg hne
  generalize hbz : wG.heap.size = bz at *
  clear hbz
  have HZ : Hid (∀ k, k < off wd (N + 1) → NEq (Z k) (inc wd N P X T k)) := fun k hk => z_inc (hZ1 k hk)
  have HZ2 := hid hZ2
  have HG1 := hid hgv1
  have HG2 := hid hgv2
  clear hZ1 hZ2 hgv1 hgv2
  go_wp2
  go_loopw [17] (fun i wr => ∃ j : Nat, j ≤ N ∧ i = .int .i64 ((j : Int) + 1) ∧ ∃ n, wr = wI.drewN n) (fun i _ => N + 1 - (intOf i).toNat)
  case atStart => exact ⟨0, Nat.zero_le _, rfl, 0, rfl⟩
  case round =>
    obtain ⟨j, hj, rfl, dn, hwr⟩ := hrel
    have HWR : Hid (wr = wI.drewN dn) := hwr
    by_cases hlt : j < N
    · have cA : wr.cell? ⟨ba, j + 1, none⟩ = some (.slice (some ⟨bl (j + 1), 0, none⟩) (wd (j + 1)) (wd (j + 1))) := by
        rw [hwr]; have h := madeI.row.cell (i := j + 1) (by omega); simpa [rowV, hlt] using h
      have cW : wr.cell? ⟨w''.heap.size, j + 1, none⟩ = some (.int .i64 (wd (j + 1) : Int)) := by
        rw [hwr]; exact rowWI.cell (i := j + 1) (by omega)
      have hi1 : (j : Int) + 1 < (N : Int) + 1 := by omega
      have hlt' : (j : Int) + 1 ≤ (N : Int) := by omega
      clear hwr
      go_wp2
      go_quiet (fail)
      go_wp2
      go_roundw
      case rel => exact ⟨j + 1, by omega, by go_num, _, by rw [HWR.out]; exact World.drewN_drewN _ _ _⟩
      case measure => simp [intOf]; omega
    · have hNj : N = j := by omega
      subst hNj
      have hex : decide ((N : Int) + 1 ≤ (N : Int)) = false := decide_eq_false (by omega)
      clear hwr hlt hj
      go_wp2
      clear hex
      go_loopw [18] (fun i wr => ∃ k : Nat, k ≤ n2 ∧ i = .int .i64 (k : Int) ∧ ∃ n, wr = wI.drewN n) (fun i _ => n2 - (intOf i).toNat)
      case atStart => exact ⟨0, Nat.zero_le _, rfl, dn, HWR.out⟩
      case round =>
        clear HWR
        obtain ⟨k, hk, rfl, dk, hwk⟩ := hrel
        have HWK : Hid (wr = wI.drewN dk) := hwk
        by_cases hkl : k < n2
        · as_aux_lemma =>
            have e1 := sGI.at_ (by omega)
            subst e1
            have e2 := hag (by omega)
            subst e2
            have cG : wr.cell? ⟨bG, k, none⟩ = some (.float .f64 (G k)) := by rw [hwk]; exact sGI.cell k hkl
            have cg : wr.cell? ⟨bg, k, none⟩ = some (.float .f64 (gv k)) := by rw [hwk]; exact (rowgI (by omega)).cell hkl
            have cZ : wr.cell? ⟨bz, k, none⟩ = some (.float .f64 (Z k)) := by rw [hwk]; exact (rowZI (by omega)).cell hkl
            have hkI : (k : Int) < (n2 : Int) := by omega
            have hkb : (k : Int) ≤ 131072 := by omega
            clear hwk
            by_cases hkt : k < off wd (N + 1)
            · have hktI : (k : Int) < (off wd (N + 1) : Nat) := by omega
              have HE : Hid (∀ W, NEq (gv k) (fop .add (G k) (Z k) W)) := fun W => g_sum W (HG1.out k hkt) (HZ.out k hkt)
              go_wp2
              go_region_held (fun w' => w'.cell? ⟨bG, k, none⟩ = some (.float .f64 (G k)) ∧ w'.cell? ⟨bg, k, none⟩ = some (.float .f64 (gv k)) ∧ w'.cell? ⟨bz, k, none⟩ = some (.float .f64 (Z k))) (exact ⟨cG, cg, cZ⟩) ((go_at_call 19; refine (eqF_true _ _ (HE.out _) _).mono ?_; rintro e wS ⟨rfl, rfl⟩))
              go_wp2
              go_roundw
              case rel => exact ⟨k + 1, by omega, by go_num, _, by rw [HWK.out]; exact World.drewN_drewN _ _ _⟩
              case measure => simp [intOf]; omega
            · have hktI : decide ((k : Int) < (off wd (N + 1) : Nat)) = false := decide_eq_false (by omega)
              have hktn : decide (k < off wd (N + 1)) = false := decide_eq_false (by omega)
              have eg := HG2.out k (by omega)
              have ez := HZ2.out k (by omega)
              rw [eg] at cg
              rw [ez] at cZ
              have HC : Hid (∀ x n, Calls Try.prog 16 #[.float .f64 x, .float .f64 x] (wr.drewN n) fun e w'' => e = .returned (.bool true) ∧ ∃ m, w'' = wr.drewN m) :=
                fun x n => Calls.quiet_of (sameF_true _ _ (Eqv.refl _) _)
              clear eg ez
              go_wp2
              go_quiet ((go_at_call 16; exact HC.out _ _))
              go_wp2
              go_roundw
              case rel => exact ⟨k + 1, by omega, by go_num, _, by rw [HWK.out]; exact World.drewN_drewN _ _ _⟩
              case measure => simp [intOf]; omega
        · have hex : decide ((k : Int) < (n2 : Int)) = false := decide_eq_false (by omega)
          have hexn : decide (k < n2) = false := decide_eq_false (by omega)
          clear hwk
          go_wp2_with fail
          clear hex hexn
          refine (offs_any w''.heap.size 0 N (N + 1) wd wr (fun j hj => by rw [HWK.out, Nat.zero_add]; exact rowWI.cell hj) g2 g4 (by omega)).mono ?_
          rintro e wJ ⟨rfl, rowO, belO⟩
          have madeJ := (show Made wr _ ba _ _ _ wd _ bl val _ by rw [HWK.out]; exact drewMade madeI dk).below belO
          have belK : Below w''.heap.size w'' wr := by rw [HWK.out]; exact below_drewN belI _
          have HB : Hid (Below w''.heap.size w'' wJ) := belK.trans (belO.mono belK.size)
          have rowWK : wr.rowIs w''.heap.size 3 (N + 1) (fun i => .int .i64 (wd i : Int)) := by rw [HWK.out]; exact rowWI
          have rowWJ := rowIs_below rowWK belO rowWK.lt
          have sPJ := (show Src wr aP bP n1 P by rw [HWK.out]; exact ⟨sPI.at_, sPI.cell, sPI.lt⟩).below belO
          have sXJ := (show Src wr aX bX (wd 0) X by rw [HWK.out]; exact ⟨sXI.at_, sXI.cell, sXI.lt⟩).below belO
          have sTJ := (show Src wr aT bT n4 T by rw [HWK.out]; exact ⟨sTI.at_, sTI.cell, sTI.lt⟩).below belO
          have rowZJ : 0 < n2 → wJ.rowIs bz 32 n2 (fun i => .float .f64 (Z i)) := fun h => by
            have h1 : wr.rowIs bz 32 n2 (fun i => .float .f64 (Z i)) := by rw [HWK.out]; exact rowZI h
            exact rowIs_below h1 belO h1.lt
          have HZB : Hid (∀ q i, q < N → i < wd (q + 1) → NEq (Z (off wd (q + 1) + wd (q + 1) * wd q + i)) (dlt wd N P X T (q + 1) i)) := z_bias HZ.out
          have HZW : Hid (∀ q i j, q < N → i < wd (q + 1) → j < wd q → NEq (Z (off wd (q + 1) + i * wd q + j)) (can .mul (dlt wd N P X T (q + 1) i) (lev wd N P X q j))) := z_weight HZ.out
          have HLV : Hid (∀ k, k < N + 1 → ∃ (al : Option Addr) (bb oo nl cl : Nat) (A : Nat → Nat), wJ.cell? ⟨ba, k, none⟩ = some (.slice al nl cl) ∧ wd k ≤ nl ∧ (0 < nl → al = some ⟨bb, oo, none⟩) ∧ (∀ j, j < wd k → wJ.cell? ⟨bb, oo + j, none⟩ = some (.float .f64 (A j))) ∧ ∀ j, j < wd k → Eqv (A j) (lev wd N P X k j)) :=
            fun k hk => madeJ.get (fun i => rfl) (Nat.le_refl _) sXJ.at_ sXJ.cell0 k hk (Nat.le_refl _) hk
          generalize hbO : wr.heap.size = bO at *
          clear hbO madeI belI rowWI sPI sGI sXI sTI rowgI rowZI rowWK belK belO HWK madeJ sXJ HG1 HG2 HZ HZ2 hag hk hkl
          have RW := hid rowWJ
          have RO := hid rowO
          have RZ := hid rowZJ
          have SP := hid sPJ
          have ST := hid sTJ
          clear rowWJ rowO rowZJ sPJ sTJ
          go_wp2
          go_loopw [20] (fun i wr => ∃ k : Nat, k ≤ N ∧ i = .int .i64 (k : Int) ∧ ∃ n, wr = wJ.drewN n) (fun i _ => (intOf i).toNat)
          case atStart => exact ⟨N, Nat.le_refl _, rfl, 0, rfl⟩
          case round =>
            obtain ⟨k, hk, hi, dk, hwk⟩ := hrel
            have HWK := hid hwk
            by_cases hk0 : k = 0
            · subst hk0
              subst hi
              clear hwk
              go_wp2
              go_ret
              exact ⟨rfl, by rw [HWK.out]; exact below_drewN HB.out _⟩
            · as_aux_lemma =>
                obtain ⟨q, rfl⟩ : ∃ q, k = q + 1 := ⟨k - 1, by omega⟩
                have hi' := hi.trans (show Value.int .i64 (((q + 1 : Nat)) : Int) = .int .i64 ((q : Int) + 1) by simp)
                clear hi
                subst hi'
                have hlt : q < N := by omega
                have hge : decide (1 ≤ (q : Int) + 1) = true := decide_eq_true (by omega)
                have hoffk : off wd (q + 2) ≤ n2 := Nat.le_trans (off_mono wd (q + 2) (N + 1) (by omega)) htot
                have hoffp : off wd (q + 2) ≤ n1 := Nat.le_trans (off_mono wd (q + 2) (N + 1) (by omega)) g5
                have HO : Hid (off wd (q + 2) = off wd (q + 1) + wd (q + 1) * (wd q + 1)) := off_succ wd q
                have HM : Hid (wd (q + 1) * wd q + wd (q + 1) = wd (q + 1) * (wd q + 1)) := (Nat.mul_succ _ _).symm
                have hbnd : off wd (q + 1) + wd (q + 1) * wd q + wd (q + 1) ≤ n2 := by have := HO.out; have := HM.out; omega
                have hbnp : off wd (q + 1) + wd (q + 1) * wd q + wd (q + 1) ≤ n1 := by have := HO.out; have := HM.out; omega
                have hq0 : 0 ≤ (wd (q + 1) : Int) * (wd q : Int) := by rw [mul_cast']; omega
                have hq1 : (wd (q + 1) : Int) * (wd q : Int) ≤ 131072 := by rw [mul_cast']; omega
                have c0' : wr.cell? ⟨w''.heap.size, q, none⟩ = some (.int .i64 (wd q : Int)) := by rw [hwk]; exact RW.out.cell (i := q) (by omega)
                have c1' : wr.cell? ⟨w''.heap.size, q + 1, none⟩ = some (.int .i64 (wd (q + 1) : Int)) := by rw [hwk]; exact RW.out.cell (i := q + 1) (by omega)
                have cO : wr.cell? ⟨bO, q + 1, none⟩ = some (.int .i64 (off wd (q + 1) : Nat)) := by rw [hwk]; exact RO.out.cell (i := q + 1) (by omega)
                have hi0 : (q : Int) < (N : Int) + 1 := by omega
                have hi1 : (q : Int) + 1 < (N : Int) + 1 := by omega
                have hi2 : (q : Int) + 1 < (N : Int) + 2 := by omega
                have hob : off wd (q + 1) ≤ 131072 := by omega
                have hwq := g4 q (by omega)
                have hwq1 : wd (q + 1) ≤ 131072 := by omega
                obtain ⟨al, bb, oo, nl, cl, A, hcq, hnl, hal, hA, hAe⟩ := HLV.out q (by omega)
                have HA := hid hA
                have HAE := hid hAe
                have HAL := hid hal
                have HCQ := hid hcq
                clear hwk hA hAe hal hcq hoffk hoffp
                go_wp2
                clear c0' c1' cO hi0 hi1 hi2 hge
                go_loopw [25] (fun i wi => ∃ m : Nat, m ≤ wd (q + 1) ∧ i = .int .i64 (m : Int) ∧ ∃ n, wi = wJ.drewN n) (fun i _ => wd (q + 1) - (intOf i).toNat)
                case atStart => exact ⟨0, Nat.zero_le _, rfl, dk, HWK.out⟩
                case round =>
                  clear HWK
                  obtain ⟨m, hm, rfl, dm, hwm⟩ := hrel
                  have HWM := hid hwm
                  by_cases hml : m < wd (q + 1)
                  · have hidB : ((off wd (q + 1) : Nat) + (wd (q + 1) : Int) * (wd q : Int) + (m : Int)).toNat = off wd (q + 1) + wd (q + 1) * wd q + m := by rw [mul_cast']; omega
                    have hEB : ((off wd (q + 1) : Nat) : Int) + (wd (q + 1) : Int) * (wd q : Int) + (m : Int) < (n2 : Int) := by rw [mul_cast']; omega
                    have cZ : wr.cell? ⟨bz, off wd (q + 1) + wd (q + 1) * wd q + m, none⟩ = some (.float .f64 (Z (off wd (q + 1) + wd (q + 1) * wd q + m))) := by rw [hwm]; exact (RZ.out (by omega)).cell (by omega)
                    have hwB : IntKind.i64.wrap (((off wd (q + 1) : Nat) : Int) + (wd (q + 1) : Int) * (wd q : Int) + (m : Int)) = ((off wd (q + 1) : Nat) : Int) + (wd (q + 1) : Int) * (wd q : Int) + (m : Int) := by rw [IntKind.wrap_i64, mul_cast']; omega
                    have hB0 : 0 ≤ ((off wd (q + 1) : Nat) : Int) + (wd (q + 1) : Int) * (wd q : Int) + (m : Int) := by rw [mul_cast']; omega
                    have hmI : (m : Int) < (wd (q + 1) : Int) := by omega
                    have hi0 : (q : Int) < (N : Int) + 1 := by omega
                    have hiN : (N : Int) < (N : Int) + 1 := by omega
                    by_cases hqN : q + 1 = N
                    · as_aux_lemma =>
                        have hqb : (((q : Int) + 1) == (N : Int)) = true := by simp; omega
                        obtain ⟨aN, bN, oN, nN, cN, AN, hcN, hnN, haN, hAN, hANe⟩ := HLV.out N (by omega)
                        have hmN : m < wd N := by rw [← hqN]; exact hml
                        have haN' := haN (by omega)
                        subst haN'
                        have haT := ST.out.at_ (by omega)
                        subst haT
                        have cN1 : wr.cell? ⟨ba, N, none⟩ = some (.slice (some ⟨bN, oN, none⟩) nN cN) := by rw [hwm]; exact hcN
                        have cN2 : wr.cell? ⟨bN, oN + m, none⟩ = some (.float .f64 (AN m)) := by rw [hwm]; exact hAN m hmN
                        have cT : wr.cell? ⟨bT, m, none⟩ = some (.float .f64 (T m)) := by rw [hwm]; exact ST.out.cell m (by omega)
                        have hmN1 : (m : Int) < (nN : Int) := by omega
                        have hmT : (m : Int) < (n4 : Int) := by omega
                        have HE : Hid (∀ W, NEq (Z (off wd (q + 1) + wd (q + 1) * wd q + m)) (fop .sub (AN m) (T m) W)) := fun W => by
                          have h1 := HZB.out q m hlt hml
                          have h2 : dlt wd N P X T (q + 1) m = can .sub (lev wd N P X N m) (T m) := by rw [hqN]; exact dlt_top wd N P X T m
                          rw [h2] at h1
                          exact z_sub W h1 (hANe m hmN)
                        clear hwm hAN hANe hcN haN hqN
                        go_wp2
                        go_region_held (fun w' => w'.cell? ⟨bz, off wd (q + 1) + wd (q + 1) * wd q + m, none⟩ = some (.float .f64 (Z (off wd (q + 1) + wd (q + 1) * wd q + m))) ∧ w'.cell? ⟨ba, N, none⟩ = some (.slice (some ⟨bN, oN, none⟩) nN cN) ∧ w'.cell? ⟨bN, oN + m, none⟩ = some (.float .f64 (AN m)) ∧ w'.cell? ⟨bT, m, none⟩ = some (.float .f64 (T m))) (exact ⟨cZ, cN1, cN2, cT⟩) ((go_at_call 19; refine (eqF_true _ _ (HE.out _) _).mono ?_; rintro e wS ⟨rfl, rfl⟩))
                        go_wp2
                        clear hidB hEB hwB hB0 cZ hi0 hiN
                        go_loopw [26] (fun i wi => ∃ t : Nat, t ≤ wd q ∧ i = .int .i64 (t : Int) ∧ ∃ n, wi = wJ.drewN n) (fun i _ => wd q - (intOf i).toNat)
                        case atStart => exact ⟨0, Nat.zero_le _, rfl, _, by rw [HWM.out]; exact World.drewN_drewN _ _ _⟩
                        case round =>
                          clear HWM
                          obtain ⟨t, ht, rfl, dt, hwt⟩ := hrel
                          have HWT := hid hwt
                          by_cases htl : t < wd q
                          · as_aux_lemma =>
                              have hrt := row_lt hml htl
                              have hmq0 : 0 ≤ (m : Int) * (wd q : Int) := by rw [mul_cast']; omega
                              have hmq1 : (m : Int) * (wd q : Int) ≤ 131072 := by rw [mul_cast']; omega
                              have hidW : (((off wd (q + 1) : Nat) : Int) + (m : Int) * (wd q : Int) + (t : Int)).toNat = off wd (q + 1) + m * wd q + t := by rw [mul_cast']; omega
                              have hEW : ((off wd (q + 1) : Nat) : Int) + (m : Int) * (wd q : Int) + (t : Int) < (n2 : Int) := by rw [mul_cast']; omega
                              have hW0 : 0 ≤ ((off wd (q + 1) : Nat) : Int) + (m : Int) * (wd q : Int) + (t : Int) := by rw [mul_cast']; omega
                              have hwW : IntKind.i64.wrap (((off wd (q + 1) : Nat) : Int) + (m : Int) * (wd q : Int) + (t : Int)) = ((off wd (q + 1) : Nat) : Int) + (m : Int) * (wd q : Int) + (t : Int) := by rw [IntKind.wrap_i64, mul_cast']; omega
                              have hwW1 : IntKind.i64.wrap (((off wd (q + 1) : Nat) : Int) + (m : Int) * (wd q : Int)) = ((off wd (q + 1) : Nat) : Int) + (m : Int) * (wd q : Int) := by rw [IntKind.wrap_i64, mul_cast']; omega
                              have hwW2 : IntKind.i64.wrap ((m : Int) * (wd q : Int)) = (m : Int) * (wd q : Int) := by rw [IntKind.wrap_i64, mul_cast']; omega
                              have hwl : IntKind.i64.wrap ((q : Int) + 1 - 1) = (q : Int) := by rw [IntKind.wrap_i64]; omega
                              have hwl2 : IntKind.i64.wrap (q : Int) = (q : Int) := by rw [IntKind.wrap_i64]; omega
                              have hidB : ((off wd (q + 1) : Nat) + (wd (q + 1) : Int) * (wd q : Int) + (m : Int)).toNat = off wd (q + 1) + wd (q + 1) * wd q + m := by rw [mul_cast']; omega
                              have hEB : ((off wd (q + 1) : Nat) : Int) + (wd (q + 1) : Int) * (wd q : Int) + (m : Int) < (n2 : Int) := by rw [mul_cast']; omega
                              have hwB : IntKind.i64.wrap (((off wd (q + 1) : Nat) : Int) + (wd (q + 1) : Int) * (wd q : Int) + (m : Int)) = ((off wd (q + 1) : Nat) : Int) + (wd (q + 1) : Int) * (wd q : Int) + (m : Int) := by rw [IntKind.wrap_i64, mul_cast']; omega
                              have hB0 : 0 ≤ ((off wd (q + 1) : Nat) : Int) + (wd (q + 1) : Int) * (wd q : Int) + (m : Int) := by rw [mul_cast']; omega
                              have hal' := HAL.out (by omega)
                              subst hal'
                              have cZw : wr.cell? ⟨bz, off wd (q + 1) + m * wd q + t, none⟩ = some (.float .f64 (Z (off wd (q + 1) + m * wd q + t))) := by rw [hwt]; exact (RZ.out (by omega)).cell (by omega)
                              have cZb : wr.cell? ⟨bz, off wd (q + 1) + wd (q + 1) * wd q + m, none⟩ = some (.float .f64 (Z (off wd (q + 1) + wd (q + 1) * wd q + m))) := by rw [hwt]; exact (RZ.out (by omega)).cell (by omega)
                              have cq1 : wr.cell? ⟨ba, q, none⟩ = some (.slice (some ⟨bb, oo, none⟩) nl cl) := by rw [hwt]; exact HCQ.out
                              have cq2 : wr.cell? ⟨bb, oo + t, none⟩ = some (.float .f64 (A t)) := by rw [hwt]; exact HA.out t htl
                              have htn : (t : Int) < (nl : Int) := by omega
                              have htI : (t : Int) < (wd q : Int) := by omega
                              have hi0 : (q : Int) < (N : Int) + 1 := by omega
                              have HE : Hid (∀ W, NEq (Z (off wd (q + 1) + m * wd q + t)) (fop .mul (Z (off wd (q + 1) + wd (q + 1) * wd q + m)) (A t) W)) := fun W => z_mul W (HZW.out q m t hlt hml htl) (HZB.out q m hlt hml) (HAE.out t htl)
                              clear hwt hrt
                              go_wp2
                              go_region_held (fun w' => w'.cell? ⟨bz, off wd (q + 1) + m * wd q + t, none⟩ = some (.float .f64 (Z (off wd (q + 1) + m * wd q + t))) ∧ w'.cell? ⟨bz, off wd (q + 1) + wd (q + 1) * wd q + m, none⟩ = some (.float .f64 (Z (off wd (q + 1) + wd (q + 1) * wd q + m))) ∧ w'.cell? ⟨ba, q, none⟩ = some (.slice (some ⟨bb, oo, none⟩) nl cl) ∧ w'.cell? ⟨bb, oo + t, none⟩ = some (.float .f64 (A t))) (exact ⟨cZw, cZb, cq1, cq2⟩) ((go_at_call 19; refine (eqF_true _ _ (HE.out _) _).mono ?_; rintro e wS ⟨rfl, rfl⟩))
                              go_wp2
                              go_roundw
                              case rel =>
                                first
                                  | exact ⟨t + 1, by omega, by go_num, _, by rw [HWT.out]; exact World.drewN_drewN _ _ _⟩
                                  | ((repeat apply Exists.intro); refine ⟨?_, rfl⟩; exact ⟨t + 1, by omega, by go_num, _, by rw [HWT.out]; exact World.drewN_drewN _ _ _⟩)
                              case measure => simp [intOf]; omega
                          · have hex : decide ((t : Int) < (wd q : Int)) = false := decide_eq_false (by omega)
                            have hexn : decide (t < wd q) = false := decide_eq_false (by omega)
                            clear hwt
                            go_wp2
                            go_roundw
                            case rel => exact ⟨m + 1, by omega, by go_num, dt, HWT.out⟩
                            case measure => simp [intOf]; omega
                    · as_aux_lemma =>
                        have hqb : (((q : Int) + 1) == (N : Int)) = false := by simp; omega
                        clear hwm hqN
                        go_wp2
                        go_quiet (fail)
                        go_wp2
                        clear hidB hEB hwB hB0 cZ hi0 hiN
                        go_loopw [26] (fun i wi => ∃ t : Nat, t ≤ wd q ∧ i = .int .i64 (t : Int) ∧ ∃ n, wi = wJ.drewN n) (fun i _ => wd q - (intOf i).toNat)
                        case atStart => exact ⟨0, Nat.zero_le _, rfl, _, by rw [HWM.out]; exact World.drewN_drewN _ _ _⟩
                        case round =>
                          clear HWM
                          obtain ⟨t, ht, rfl, dt, hwt⟩ := hrel
                          have HWT := hid hwt
                          by_cases htl : t < wd q
                          · as_aux_lemma =>
                              have hrt := row_lt hml htl
                              have hmq0 : 0 ≤ (m : Int) * (wd q : Int) := by rw [mul_cast']; omega
                              have hmq1 : (m : Int) * (wd q : Int) ≤ 131072 := by rw [mul_cast']; omega
                              have hidW : (((off wd (q + 1) : Nat) : Int) + (m : Int) * (wd q : Int) + (t : Int)).toNat = off wd (q + 1) + m * wd q + t := by rw [mul_cast']; omega
                              have hEW : ((off wd (q + 1) : Nat) : Int) + (m : Int) * (wd q : Int) + (t : Int) < (n2 : Int) := by rw [mul_cast']; omega
                              have hW0 : 0 ≤ ((off wd (q + 1) : Nat) : Int) + (m : Int) * (wd q : Int) + (t : Int) := by rw [mul_cast']; omega
                              have hwW : IntKind.i64.wrap (((off wd (q + 1) : Nat) : Int) + (m : Int) * (wd q : Int) + (t : Int)) = ((off wd (q + 1) : Nat) : Int) + (m : Int) * (wd q : Int) + (t : Int) := by rw [IntKind.wrap_i64, mul_cast']; omega
                              have hwW1 : IntKind.i64.wrap (((off wd (q + 1) : Nat) : Int) + (m : Int) * (wd q : Int)) = ((off wd (q + 1) : Nat) : Int) + (m : Int) * (wd q : Int) := by rw [IntKind.wrap_i64, mul_cast']; omega
                              have hwW2 : IntKind.i64.wrap ((m : Int) * (wd q : Int)) = (m : Int) * (wd q : Int) := by rw [IntKind.wrap_i64, mul_cast']; omega
                              have hwl : IntKind.i64.wrap ((q : Int) + 1 - 1) = (q : Int) := by rw [IntKind.wrap_i64]; omega
                              have hwl2 : IntKind.i64.wrap (q : Int) = (q : Int) := by rw [IntKind.wrap_i64]; omega
                              have hidB : ((off wd (q + 1) : Nat) + (wd (q + 1) : Int) * (wd q : Int) + (m : Int)).toNat = off wd (q + 1) + wd (q + 1) * wd q + m := by rw [mul_cast']; omega
                              have hEB : ((off wd (q + 1) : Nat) : Int) + (wd (q + 1) : Int) * (wd q : Int) + (m : Int) < (n2 : Int) := by rw [mul_cast']; omega
                              have hwB : IntKind.i64.wrap (((off wd (q + 1) : Nat) : Int) + (wd (q + 1) : Int) * (wd q : Int) + (m : Int)) = ((off wd (q + 1) : Nat) : Int) + (wd (q + 1) : Int) * (wd q : Int) + (m : Int) := by rw [IntKind.wrap_i64, mul_cast']; omega
                              have hB0 : 0 ≤ ((off wd (q + 1) : Nat) : Int) + (wd (q + 1) : Int) * (wd q : Int) + (m : Int) := by rw [mul_cast']; omega
                              have hal' := HAL.out (by omega)
                              subst hal'
                              have cZw : wr.cell? ⟨bz, off wd (q + 1) + m * wd q + t, none⟩ = some (.float .f64 (Z (off wd (q + 1) + m * wd q + t))) := by rw [hwt]; exact (RZ.out (by omega)).cell (by omega)
                              have cZb : wr.cell? ⟨bz, off wd (q + 1) + wd (q + 1) * wd q + m, none⟩ = some (.float .f64 (Z (off wd (q + 1) + wd (q + 1) * wd q + m))) := by rw [hwt]; exact (RZ.out (by omega)).cell (by omega)
                              have cq1 : wr.cell? ⟨ba, q, none⟩ = some (.slice (some ⟨bb, oo, none⟩) nl cl) := by rw [hwt]; exact HCQ.out
                              have cq2 : wr.cell? ⟨bb, oo + t, none⟩ = some (.float .f64 (A t)) := by rw [hwt]; exact HA.out t htl
                              have htn : (t : Int) < (nl : Int) := by omega
                              have htI : (t : Int) < (wd q : Int) := by omega
                              have hi0 : (q : Int) < (N : Int) + 1 := by omega
                              have HE : Hid (∀ W, NEq (Z (off wd (q + 1) + m * wd q + t)) (fop .mul (Z (off wd (q + 1) + wd (q + 1) * wd q + m)) (A t) W)) := fun W => z_mul W (HZW.out q m t hlt hml htl) (HZB.out q m hlt hml) (HAE.out t htl)
                              clear hwt hrt
                              go_wp2
                              go_region_held (fun w' => w'.cell? ⟨bz, off wd (q + 1) + m * wd q + t, none⟩ = some (.float .f64 (Z (off wd (q + 1) + m * wd q + t))) ∧ w'.cell? ⟨bz, off wd (q + 1) + wd (q + 1) * wd q + m, none⟩ = some (.float .f64 (Z (off wd (q + 1) + wd (q + 1) * wd q + m))) ∧ w'.cell? ⟨ba, q, none⟩ = some (.slice (some ⟨bb, oo, none⟩) nl cl) ∧ w'.cell? ⟨bb, oo + t, none⟩ = some (.float .f64 (A t))) (exact ⟨cZw, cZb, cq1, cq2⟩) ((go_at_call 19; refine (eqF_true _ _ (HE.out _) _).mono ?_; rintro e wS ⟨rfl, rfl⟩))
                              go_wp2
                              go_roundw
                              case rel =>
                                first
                                  | exact ⟨t + 1, by omega, by go_num, _, by rw [HWT.out]; exact World.drewN_drewN _ _ _⟩
                                  | ((repeat apply Exists.intro); refine ⟨?_, rfl⟩; exact ⟨t + 1, by omega, by go_num, _, by rw [HWT.out]; exact World.drewN_drewN _ _ _⟩)
                              case measure => simp [intOf]; omega
                          · have hex : decide ((t : Int) < (wd q : Int)) = false := decide_eq_false (by omega)
                            have hexn : decide (t < wd q) = false := decide_eq_false (by omega)
                            clear hwt
                            go_wp2
                            go_roundw
                            case rel => exact ⟨m + 1, by omega, by go_num, dt, HWT.out⟩
                            case measure => simp [intOf]; omega
                  · have hex : decide ((m : Int) < (wd (q + 1) : Int)) = false := decide_eq_false (by omega)
                    have hexn : decide (m < wd (q + 1)) = false := decide_eq_false (by omega)
                    by_cases hqz : q = 0
                    · subst hqz
                      clear hwm
                      go_wp2
                      go_roundw
                      case rel => exact ⟨0, by omega, by go_num, dm, HWM.out⟩
                      case measure => simp [intOf]
                    · obtain ⟨p, hqp⟩ : ∃ p, q = p + 1 := ⟨q - 1, by omega⟩
                      have hq2 : 2 ≤ (q : Int) + 1 := by omega
                      have hP1 : (q : Int) + 1 - 2 = (p : Int) := by omega
                      have hP2 : (q : Int) - 1 = (p : Int) := by omega
                      have hpN : (p : Int) < (N : Int) + 1 := by omega
                      have hpn : p < N := by omega
                      have HOP : Hid (off wd (q + 1) = off wd q + wd q * wd p + wd q) := by
                        have h1 := off_succ wd p
                        have h2 : wd (p + 1) * (wd p + 1) = wd (p + 1) * wd p + wd (p + 1) := Nat.mul_succ _ _
                        subst hqp
                        show off wd (p + 2) = _
                        omega
                      have HZP : Hid (∀ j, j < wd q → NEq (Z (off wd q + wd q * wd p + j)) (dlt wd N P X T q j)) := by
                        intro j hj
                        subst hqp
                        exact HZB.out p j hpn hj
                      clear hqp
                      have hbp : off wd q + wd q * wd p + wd q ≤ 131072 := by have := HOP.out; omega
                      have hbp2 : off wd q + wd q * wd p + wd q ≤ n2 := by have := HOP.out; omega
                      have hqp0 : 0 ≤ (wd q : Int) * (wd p : Int) := by rw [mul_cast']; omega
                      have hqp1 : (wd q : Int) * (wd p : Int) ≤ 131072 := by rw [mul_cast']; omega
                      have hobq : off wd q ≤ 131072 := by omega
                      have cOq : wr.cell? ⟨bO, q, none⟩ = some (.int .i64 (off wd q : Nat)) := by rw [hwm]; exact RO.out.cell (i := q) (by omega)
                      have cWp : wr.cell? ⟨w''.heap.size, p, none⟩ = some (.int .i64 (wd p : Int)) := by rw [hwm]; exact RW.out.cell (i := p) (by omega)
                      have hiO : (q : Int) < (N : Int) + 2 := by omega
                      have hwp := g4 p (by omega)
                      clear hwm
                      go_wp2
                      go_quiet (fail)
                      go_wp2
                      clear hex hexn cOq cWp hiO hP1 hP2 hpN hq2
                      go_loopw [28] (fun i wi => ∃ j : Nat, j ≤ wd q ∧ i = .int .i64 (j : Int) ∧ ∃ n, wi = wJ.drewN n) (fun i _ => wd q - (intOf i).toNat)
                      case atStart => exact ⟨0, Nat.zero_le _, rfl, _, by rw [HWM.out]; exact World.drewN_drewN _ _ _⟩
                      case round =>
                        clear HWM
                        obtain ⟨j, hj, rfl, dj, hwj⟩ := hrel
                        have HWJ := hid hwj
                        by_cases hjl : j < wd q
                        · as_aux_lemma =>
                            have hal' := HAL.out (by omega)
                            subst hal'
                            have cq1 : wr.cell? ⟨ba, q, none⟩ = some (.slice (some ⟨bb, oo, none⟩) nl cl) := by rw [hwj]; exact HCQ.out
                            have cq2 : wr.cell? ⟨bb, oo + j, none⟩ = some (.float .f64 (A j)) := by rw [hwj]; exact HA.out j hjl
                            have hjn : (j : Int) < (nl : Int) := by omega
                            have hjI : (j : Int) < (wd q : Int) := by omega
                            have hi0 : (q : Int) < (N : Int) + 1 := by omega
                            have HDL := hid (dlt_step wd N P X T q hlt j)
                            have HLE : Hid (le0 (A j) = le0 (lev wd N P X q j)) := le0_eqv (HAE.out j hjl)
                            have HZJ := hid (HZP.out j hjl)
                            cases hl : le0 (A j) with
                            | true =>
                              have HE : Hid (NEq (Z (off wd q + wd q * wd p + j)) 0) := by
                                have h := HZJ.out
                                rw [HDL.out, ← HLE.out, hl] at h
                                exact h
                              have hor : FloatKind.f64.format.order (A j) 0 = some .lt ∨ FloatKind.f64.format.order (A j) 0 = some .eq := by simpa [le0] using hl
                              have hidP : (((off wd q : Nat) : Int) + (wd q : Int) * (wd p : Int) + (j : Int)).toNat = off wd q + wd q * wd p + j := by rw [mul_cast']; omega
                              have hEP : ((off wd q : Nat) : Int) + (wd q : Int) * (wd p : Int) + (j : Int) < (n2 : Int) := by rw [mul_cast']; omega
                              have cZp : wr.cell? ⟨bz, off wd q + wd q * wd p + j, none⟩ = some (.float .f64 (Z (off wd q + wd q * wd p + j))) := by rw [hwj]; exact (RZ.out (by omega)).cell (by omega)
                              have hP0 : 0 ≤ ((off wd q : Nat) : Int) + (wd q : Int) * (wd p : Int) + (j : Int) := by omega
                              have HJL := hid hjl
                              have HJ1 : Hid (j + 1 ≤ wd q) := hjl
                              have hjb : (j : Int) ≤ 1048576 := by omega
                              clear hl hwj HDL HLE hbp hbp2 hbnd hbnp hq0 hq1 g4 g5 htot htt hqz hwq1 hnl hm hj hml hk hk0 hpn hwp hn1 hn4 hw0
                              rcases hor with ho | ho
                              all_goals
                                go_wp2_with fail
                                refine (eqF_true _ _ HE.out _).mono ?_
                                rintro e wS ⟨rfl, rfl⟩
                                go_wp2
                                go_roundw
                                case rel => exact ⟨j + 1, HJ1.out, by go_num, dj, HWJ.out⟩
                                case measure => have := HJ1.out; simp [intOf]; omega
                            | false =>
                              have HDL2 : Hid (dlt wd N P X T q j = gsum P (off wd (q + 1)) (wd q) j (dlt wd N P X T (q + 1)) (wd (q + 1))) := by
                                have h := HDL.out
                                rw [← HLE.out, hl] at h
                                exact h
                              have hl2 : (FloatKind.f64.format.order (A j) 0 == some .lt) = false ∧ (FloatKind.f64.format.order (A j) 0 == some .eq) = false := by
                                unfold le0 at hl
                                exact Bool.or_eq_false_iff.1 hl
                              obtain ⟨hl3, hl4⟩ := hl2
                              clear hl HDL HLE hwj
                              go_wp2
                              clear hl3 hl4 cq1 cq2
                              go_loopw [29, 30] (fun sv i wi => ∃ t : Nat, t ≤ wd (q + 1) ∧ i = .int .i64 (t : Int) ∧ (∃ sw : Nat, sv = .float .f64 sw ∧ NEq sw (gsum P (off wd (q + 1)) (wd q) j (dlt wd N P X T (q + 1)) t)) ∧ ∃ n, wi = wJ.drewN n) (fun _ i _ => wd (q + 1) - (intOf i).toNat)
                              case atStart => exact ⟨0, Nat.zero_le _, rfl, ⟨0, rfl, NEq.refl _⟩, dj, HWJ.out⟩
                              case round =>
                                clear HWJ
                                obtain ⟨t, ht, rfl, ⟨sw, rfl, hsw⟩, dt, hwt⟩ := hrel
                                have HWT := hid hwt
                                by_cases htl : t < wd (q + 1)
                                · as_aux_lemma =>
                                    have haP := SP.out.at_ (by omega)
                                    subst haP
                                    have hrt := row_lt htl hjl
                                    have hmq0 : 0 ≤ (t : Int) * (wd q : Int) := by rw [mul_cast']; omega
                                    have hmq1 : (t : Int) * (wd q : Int) ≤ 131072 := by rw [mul_cast']; omega
                                    have hidW : (((off wd (q + 1) : Nat) : Int) + (t : Int) * (wd q : Int) + (j : Int)).toNat = off wd (q + 1) + t * wd q + j := by rw [mul_cast']; omega
                                    have hEW : ((off wd (q + 1) : Nat) : Int) + (t : Int) * (wd q : Int) + (j : Int) < (n1 : Int) := by rw [mul_cast']; omega
                                    have hW0 : 0 ≤ ((off wd (q + 1) : Nat) : Int) + (t : Int) * (wd q : Int) + (j : Int) := by rw [mul_cast']; omega
                                    have hidB : ((off wd (q + 1) : Nat) + (wd (q + 1) : Int) * (wd q : Int) + (t : Int)).toNat = off wd (q + 1) + wd (q + 1) * wd q + t := by rw [mul_cast']; omega
                                    have hEB : ((off wd (q + 1) : Nat) : Int) + (wd (q + 1) : Int) * (wd q : Int) + (t : Int) < (n2 : Int) := by rw [mul_cast']; omega
                                    have hB0 : 0 ≤ ((off wd (q + 1) : Nat) : Int) + (wd (q + 1) : Int) * (wd q : Int) + (t : Int) := by rw [mul_cast']; omega
                                    have cP : wr.cell? ⟨bP, off wd (q + 1) + t * wd q + j, none⟩ = some (.float .f64 (P (off wd (q + 1) + t * wd q + j))) := by rw [hwt]; exact SP.out.cell _ (by omega)
                                    have cZb : wr.cell? ⟨bz, off wd (q + 1) + wd (q + 1) * wd q + t, none⟩ = some (.float .f64 (Z (off wd (q + 1) + wd (q + 1) * wd q + t))) := by rw [hwt]; exact (RZ.out (by omega)).cell (by omega)
                                    have htI : (t : Int) < (wd (q + 1) : Int) := by omega
                                    have HE : Hid (∀ W W', NEq (fop .add sw (fop .mul (P (off wd (q + 1) + t * wd q + j)) (Z (off wd (q + 1) + wd (q + 1) * wd q + t)) W) W') (gsum P (off wd (q + 1)) (wd q) j (dlt wd N P X T (q + 1)) (t + 1))) := fun W W' => by
                                      have h := s_step (p := P (off wd (q + 1) + t * wd q + j)) W W' hsw (HZB.out q t hlt htl)
                                      show NEq _ (can .add (gsum P (off wd (q + 1)) (wd q) j (dlt wd N P X T (q + 1)) t) (can .mul (P (off wd (q + 1) + (t * wd q + j))) (dlt wd N P X T (q + 1) t)))
                                      rw [← Nat.add_assoc]
                                      exact h
                                    clear hwt hrt hsw
                                    go_wp2
                                    go_region
                                    go_wp2
                                    go_roundw
                                    case rel => exact ⟨t + 1, by omega, by go_num, ⟨_, rfl, HE.out _ _⟩, _, by rw [HWT.out]; exact World.drewN_drewN _ _ _⟩
                                    case measure => simp [intOf]; omega
                                · have htq : t = wd (q + 1) := by omega
                                  have HE : Hid (NEq (Z (off wd q + wd q * wd p + j)) sw) := by
                                    have h := HZJ.out
                                    rw [HDL2.out] at h
                                    rw [htq] at hsw
                                    exact h.trans hsw.symm
                                  have hidP : (((off wd q : Nat) : Int) + (wd q : Int) * (wd p : Int) + (j : Int)).toNat = off wd q + wd q * wd p + j := by rw [mul_cast']; omega
                                  have hEP : ((off wd q : Nat) : Int) + (wd q : Int) * (wd p : Int) + (j : Int) < (n2 : Int) := by rw [mul_cast']; omega
                                  have cZp : wr.cell? ⟨bz, off wd q + wd q * wd p + j, none⟩ = some (.float .f64 (Z (off wd q + wd q * wd p + j))) := by rw [hwt]; exact (RZ.out (by omega)).cell (by omega)
                                  have hex : decide ((t : Int) < (wd (q + 1) : Int)) = false := decide_eq_false (by omega)
                                  have hexn : decide (t < wd (q + 1)) = false := decide_eq_false (by omega)
                                  clear hwt hsw htq HDL2 HZJ
                                  go_wp2_with fail
                                  refine (eqF_true _ _ HE.out _).mono ?_
                                  rintro e wS ⟨rfl, rfl⟩
                                  go_wp2
                                  go_roundw
                                  case rel => exact ⟨j + 1, by omega, by go_num, dt, HWT.out⟩
                                  case measure => simp [intOf]; omega
                        · have hex : decide ((j : Int) < (wd q : Int)) = false := decide_eq_false (by omega)
                          have hexn : decide (j < wd q) = false := decide_eq_false (by omega)
                          clear hwj
                          go_wp2
                          go_roundw
                          case rel => exact ⟨q, by omega, by go_num, dj, HWJ.out⟩
                          case measure => simp [intOf]

end Go.Proofs.Qxb6603460a.fnDenseAddGradientWhole
