import Derived.Test.Qxb6603460aGradLaw
import Derived.BigRegion
namespace Go.Proofs.Qxb6603460a
open Go.ChangeShapes Go.WideShapes Go.ChangeAt Go.RowKit
set_option linter.unusedVariables false

theorem toHid {p : Prop} (h : p) : Hid p := h

/-- What addGradient adds, by the place. -/
def inc (wd : Nat → Nat) (N : Nat) (P X T : Nat → Nat) : Nat → Nat := gD wd (lev wd N P X) (dlt wd N P X T) N

set_option maxHeartbeats 4000000 in
set_option maxRecDepth 100000 in
theorem addGradient_any (bw ow N capw : Nat) (wd : Nat → Nat) (ap : Option Addr) (bp op np cp : Nat) (P : Nat → Nat) (ag : Option Addr) (bg ng cg : Nat) (G : Nat → Nat) (ax : Option Addr) (bx ox cx : Nat) (X : Nat → Nat)
    (aT : Option Addr) (bt ot nt ct : Nat) (T : Nat → Nat) (w : World)
    (hw : ∀ j, j < N + 1 → w.cell? ⟨bw, ow + j, none⟩ = some (.int .i64 (wd j))) (hL : N + 1 ≤ 4096) (hwd : ∀ j, j < N + 1 → wd j ≤ 1048576)
    (hoff : off wd (N + 1) ≤ np) (hcap : np ≤ cp) (hnp : np ≤ 131072) (hap : 0 < np → ap = some ⟨bp, op, none⟩) (hp : ∀ i, i < np → w.cell? ⟨bp, op + i, none⟩ = some (.float .f64 (P i)))
    (hog : off wd (N + 1) ≤ ng) (hgc : ng ≤ cg) (hng : ng ≤ 131072) (hag : 0 < ng → ag = some ⟨bg, 0, none⟩) (hrow : 0 < ng → w.rowIs bg 32 ng (fun i => .float .f64 (G i)))
    (hax : 0 < wd 0 → ax = some ⟨bx, ox, none⟩) (hx : ∀ i, i < wd 0 → w.cell? ⟨bx, ox + i, none⟩ = some (.float .f64 (X i)))
    (htl : wd N ≤ nt) (hat : 0 < nt → aT = some ⟨bt, ot, none⟩) (ht : ∀ i, i < nt → w.cell? ⟨bt, ot + i, none⟩ = some (.float .f64 (T i)))
    (hbg : bg < w.heap.size) (nw : bw ≠ bg) (npg : bp ≠ bg) (nx : bx ≠ bg) (ntg : bt ≠ bg) :
    Calls Try.prog 25 #[.agg #[.slice (some ⟨bw, ow, none⟩) (N + 1) capw], .slice ap np cp, .slice ag ng cg, .slice ax (wd 0) cx, .slice aT nt ct] w fun e w' => e = .returned (.tuple #[]) ∧ ∃ G' : Nat → Nat,
      (0 < ng → w'.rowIs bg 32 ng (fun i => .float .f64 (G' i))) ∧ (∀ k, k < off wd (N + 1) → Eqv (G' k) (can .add (G k) (inc wd N P X T k))) ∧ (∀ k, off wd (N + 1) ≤ k → G' k = G k) ∧ But w.heap.size ng bg w w' := by
  have hadd := fun wx x y => run_add (P := Try.prog) wx 32 x y
  have hmul := fun wx x y => run_mul (P := Try.prog) wx 32 x y
  have hsub := fun wx x y => run_sub (P := Try.prog) wx 32 x y
  have hst := fun wx a m b => run_storeF (P := Try.prog) wx a m b
  have HX0 : Hid (∀ i, lev wd N P X 0 i = X i) := fun i => rfl
  generalize hD : inc wd N P X T = D
  have HD := toHid hD
  clear hD
  go_enter Try.func25, Try.ntmps25
  go_wp2_with fail
  refine (levels_any bw ow N capw wd ap bp op np cp P ax bx ox (wd 0) cx X _ (fun j hj => cell_alloc _ (hw j hj)) hL hwd hoff hcap hnp hap (fun i hi => cell_alloc _ (hp i hi)) (Nat.le_refl _) hax (fun i hi => cell_alloc _ (hx i hi))).mono ?_
  rintro e w1 ⟨ba, bl, val, rfl, hmade, hb1⟩
  have hsz1 : w.heap.size + 1 ≤ w1.heap.size := by have := hb1.size; simpa using this
  have hbel : Below w.heap.size w w1 := ((Below.refl _ _).alloc (Nat.le_refl _) _).trans (hb1.mono (by simp))
  have hbox : w1.cell? ⟨w.heap.size, 0, none⟩ = some (.slice (some ⟨bw, ow, none⟩) (N + 1) capw) := (hb1.cell (by simp)).trans (by simp)
  have hmade1 : Made w1 (w.heap.size + 1) ba (N + 1) (N + 1) (N + 1) wd (.slice ax (wd 0) cx) bl val (lev wd N P X) := by simpa using hmade
  clear hmade hb1
  obtain ⟨al, bb, oo, cl, A, hcN, hal, hA, hAe, hbbg⟩ := hmade1.get' HX0.out hax (fun i hi => (hbel.cell (cell_lt (hx i hi))).trans (hx i hi)) bg nx (by omega) N (by omega) (by omega) (by omega)
  have hwN := (hbel.cell (cell_lt (hw N (by omega)))).trans (hw N (by omega))
  have hmk := makeF (wd N) (hwd N (by omega))
  have hba1 : ba < w1.heap.size := hmade1.row.lt
  have hba2 : w.heap.size + 1 ≤ ba := hmade1.base
  have HA : Hid (∀ j, j < wd N → w1.cell? ⟨bb, oo + j, none⟩ = some (.float .f64 (A j))) := hA
  have HAE := toHid hAe
  have HM1 := toHid hmade1
  clear hA hAe hmade1
  go_wp2
  clear hmk
  go_loopw [48] (fun i wr => ∃ m : Nat, m ≤ wd N ∧ i = .int .i64 (m : Int) ∧ (∃ v : Nat → Nat, wr.rowIs w1.heap.size 32 (wd N) (fun i => .float .f64 (v i)) ∧ ∀ i, i < m → Eqv (v i) (dlt wd N P X T N i)) ∧ Below w1.heap.size w1 wr) (fun i _ => wd N - (intOf i).toNat)
  case atStart =>
    refine ⟨0, Nat.zero_le _, rfl, ⟨fun _ => 0, ?_, fun i h => by omega⟩, (Below.refl _ _).alloc (Nat.le_refl _) _⟩
    exact World.rowIs_made w1 (.float .f64 0) (wd N) 32
  case round =>
    obtain ⟨m, hm, rfl, ⟨v, hrv, hv⟩, hbr⟩ := hrel
    by_cases hml : m < wd N
    · have hal' := hal (by omega)
      subst hal'
      have hat' := hat (by omega)
      subst hat'
      have cA : wr.cell? ⟨bb, oo + m, none⟩ = some (.float .f64 (A m)) := (hbr.cell (cell_lt (HA.out m hml))).trans (HA.out m hml)
      have cT : wr.cell? ⟨bt, ot + m, none⟩ = some (.float .f64 (T m)) := by
        have h := (hbel.cell (cell_lt (ht m (by omega)))).trans (ht m (by omega))
        exact (hbr.cell (cell_lt h)).trans h
      have cv : wr.cell? ⟨w1.heap.size, m, none⟩ = some (.float .f64 (v m)) := hrv.cell hml
      have hfv := hrv.frozen m
      have hmt : (m : Int) < (nt : Int) := by omega
      have hmb : (m : Int) ≤ 1048576 := by have := hwd N (by omega); omega
      have HR : Hid (∀ W r n, Eqv r (dlt wd N P X T N m) → W = (wr.drewN n).setCell ⟨w1.heap.size, m, none⟩ (.float .f64 r) → (∃ v : Nat → Nat, W.rowIs w1.heap.size 32 (wd N) (fun i => .float .f64 (v i)) ∧ ∀ i, i < m + 1 → Eqv (v i) (dlt wd N P X T N i)) ∧ Below w1.heap.size w1 W) := by
        intro W r n hr hW
        subst hW
        have ho : Only w1.heap.size wr ((wr.drewN n).setCell ⟨w1.heap.size, m, none⟩ (.float .f64 r)) := ((Only.refl _ _).drewN n).setCell m _
        refine ⟨⟨fun i => if i = m then r else v i, ((rowIs_drewN hrv n).set m _).congr fun i hi => ?_, fun i hi => ?_⟩, hbr.trans (ho.below (Nat.le_refl _))⟩
        · by_cases e : i = m
          · simp [e]
          · simp [e]
        · by_cases e : i = m
          · subst e; simpa using hr
          · simp only [if_neg e]; exact hv i (by omega)
      have HS : Hid (∀ W, Eqv (fop .sub (A m) (T m) W) (dlt wd N P X T N m)) := fun W => by
        rw [dlt_top]; exact fop_eqv W (HAE.out m hml) (Eqv.refl _)
      clear hrv hv hbr
      go_wp2
      go_roundw
      case rel =>
        obtain ⟨r1, r2⟩ := HR.out _ _ _ (HS.out _) rfl
        exact ⟨m + 1, by omega, by go_num, r1, r2⟩
      case measure => simp [intOf]; omega
    · have hmN : m = wd N := by omega
      subst hmN
      have HV := toHid hv
      have hbelr : Below w.heap.size w wr := hbel.trans (hbr.mono (by omega))
      have hboxr := (hbr.cell (p := ⟨w.heap.size, 0, none⟩) (by show w.heap.size < w1.heap.size; omega)).trans hbox
      have hmader := HM1.out.below hbr
      have HRV := toHid hrv
      have hszr : w1.heap.size ≤ wr.heap.size := hbr.size
      clear hv hbr hrv hbox HM1 HA HAE hcN hal hbbg hwN hsub hat ht htl
      go_wp2
      go_loopw [12, 15] (fun dv i wr => ∃ k : Nat, k ≤ N ∧ (1 ≤ k ∨ N = 0) ∧ i = .int .i64 (k : Int) ∧ (∃ (bd : Nat) (v G' : Nat → Nat), dv = .slice (some ⟨bd, 0, none⟩) (wd k) (wd k) ∧ w.heap.size ≤ bd ∧ wr.rowIs bd 32 (wd k) (fun i => .float .f64 (v i)) ∧
          (∀ i, i < wd k → Eqv (v i) (dlt wd N P X T k i)) ∧ (0 < ng → wr.rowIs bg 32 ng (fun i => .float .f64 (G' i))) ∧ Sum G D G' 0 0 0 0 (off wd (k + 1)) (off wd (N + 1))) ∧
          wr.cell? ⟨w.heap.size, 0, none⟩ = some (.slice (some ⟨bw, ow, none⟩) (N + 1) capw) ∧ Made wr (w.heap.size + 1) ba (N + 1) (N + 1) (N + 1) wd (.slice ax (wd 0) cx) bl val (lev wd N P X) ∧ But w.heap.size ng bg w wr) (fun _ i _ => (intOf i).toNat)
      case atStart =>
        exact ⟨N, Nat.le_refl _, by omega, by go_num, ⟨w1.heap.size, v, G, rfl, by omega, HRV.out, HV.out, fun h => rowIs_below (hrow h) hbelr hbg, Sum.start _ _ _ _ _⟩, hboxr, hmader, But.of_below hbelr⟩
      case round =>
        clear HRV HV hboxr hmader hbelr hm hml
        obtain ⟨k, hk, hk1, hi, ⟨bd, v, G', hdv, hbd, hrd, hv, hrg, hsum⟩, hbox, hmade, hbut⟩ := hrel
        subst hdv
        have HV := toHid hv
        have HRG := toHid hrg
        have HSUM := toHid hsum
        have HRD := toHid hrd
        clear hv hrg hsum hrd
        by_cases hk0 : k = 0
        · subst hk0
          subst hi
          have hN0 : N = 0 := by omega
          subst hN0
          go_wp2
          go_end0
          have hs := HSUM.out
          exact ⟨rfl, G', HRG.out, fun k hk => by simp [off] at hk, fun k hk => (hs k).2 (by omega), hbut⟩
        · obtain ⟨q, rfl⟩ : ∃ q, k = q + 1 := ⟨k - 1, by omega⟩
          have hi' := hi.trans (show Value.int .i64 (((q + 1 : Nat)) : Int) = .int .i64 ((q : Int) + 1) by simp)
          clear hi
          subst hi'
          have hlt : q < N := by omega
          have hoffk : off wd (q + 2) ≤ np := Nat.le_trans (off_mono wd (q + 2) (N + 1) (by omega)) hoff
          have hoffg : off wd (q + 2) ≤ ng := Nat.le_trans (off_mono wd (q + 2) (N + 1) (by omega)) hog
          have HO : Hid (off wd (q + 2) = off wd (q + 1) + wd (q + 1) * (wd q + 1)) := off_succ wd q
          have HM : Hid (wd (q + 1) * wd q + wd (q + 1) = wd (q + 1) * (wd q + 1)) := (Nat.mul_succ _ _).symm
          have hbnp : off wd (q + 1) + wd (q + 1) * wd q + wd (q + 1) ≤ np := by have := HO.out; have := HM.out; omega
          have hbng : off wd (q + 1) + wd (q + 1) * wd q + wd (q + 1) ≤ ng := by have := HO.out; have := HM.out; omega
          have hwk1 : wd (q + 1) ≤ 131072 := by omega
          have hwk0 : wd q ≤ 1048576 := hwd q (by omega)
          have hcw : ∀ j, j < N + 1 → wr.cell? ⟨bw, ow + j, none⟩ = some (.int .i64 (wd j)) := fun j hj => (hbut.cell (cell_lt (hw j hj)) nw).trans (hw j hj)
          go_wp2_with fail
          refine (layer_any bw ow (N + 1) capw wd ap bp op np cp q _ hcw (by omega) hL hwd hoffk hcap hnp hap).mono ?_
          rintro e wa ⟨a1, c1, a2, c2, rfl, ha1, hc1, -, -, hba⟩
          have hcwa : ∀ j, j < N + 1 → wa.cell? ⟨bw, ow + j, none⟩ = some (.int .i64 (wd j)) := fun j hj => (hba.cell (cell_lt (hcw j hj))).trans (hcw j hj)
          have hboxa := (hba.cell (cell_lt hbox)).trans hbox
          clear hcw
          go_wp2_with fail
          refine (layer_any bw ow (N + 1) capw wd ag bg 0 ng cg q _ hcwa (by omega) hL hwd hoffg hgc hng hag).mono ?_
          rintro e wb ⟨g1, d1, g2, d2, rfl, hg1, hd1, hg2, hd2, hbb⟩
          have hbel1 : Below wr.heap.size wr wb := hba.trans (hbb.mono hba.size)
          have hboxb := (hbb.cell (cell_lt hboxa)).trans hboxa
          have hcwq := (hbb.cell (cell_lt (hcwa q (by omega)))).trans (hcwa q (by omega))
          have hbut1 : But w.heap.size ng bg w wb := hbut.trans (But.of_below (hbel1.mono hbut.size))
          have hmade1 := hmade.below hbel1
          have hrg1 : 0 < ng → wb.rowIs bg 32 ng (fun i => .float .f64 (G' i)) := fun h => rowIs_below (HRG.out h) hbel1 (HRG.out h).lt
          have hrd1 := rowIs_below HRD.out hbel1 HRD.out.lt
          have hxb : ∀ i, i < wd 0 → wb.cell? ⟨bx, ox + i, none⟩ = some (.float .f64 (X i)) := fun i hi => (hbut1.cell (cell_lt (hx i hi)) nx).trans (hx i hi)
          obtain ⟨al, bb, oo, cl, A, hcq, hal, hA, hAe, hbbg⟩ := hmade1.get' HX0.out hax hxb bg nx (by omega) q (by omega) (by omega) (by omega)
          have hi0 : (q : Int) < (N : Int) + 1 := by omega
          have HA := toHid hA
          have HAE := toHid hAe
          have HMD := toHid hmade1
          have HRD1 := toHid hrd1
          have HRG1 := toHid hrg1
          have hbdl : bd < wb.heap.size := hrd1.lt
          have hbal : ba < wb.heap.size := hmade1.row.lt
          clear hA hAe hmade1 hrd1 hrg1 hcwa hboxa hbox hmade hbut hba hbb HRG HRD hxb
          go_wp2
          have HG1 : Hid (0 < wd (q + 1) * wd q → g1 = some ⟨bg, off wd (q + 1), none⟩) := fun h => by rw [hg1 h, Nat.zero_add]
          have HG2 : Hid (0 < wd (q + 1) → g2 = some ⟨bg, off wd (q + 1) + wd (q + 1) * wd q, none⟩) := fun h => by rw [hg2 h, Nat.zero_add]
          have HA1 := toHid ha1
          clear hg1 hg2 ha1 hcwq hi0
          go_loopw [90] (fun i wi => ∃ m : Nat, m ≤ wd (q + 1) ∧ i = .int .i64 (m : Int) ∧ (∃ G' : Nat → Nat, (0 < ng → wi.rowIs bg 32 ng (fun i => .float .f64 (G' i))) ∧
              Sum G D G' (off wd (q + 1)) (m * wd q) (off wd (q + 1) + wd (q + 1) * wd q) m (off wd (q + 2)) (off wd (N + 1))) ∧ Only bg wb wi ∧ (ng = 0 → wi = wb)) (fun i _ => wd (q + 1) - (intOf i).toNat)
          case atStart => exact ⟨0, Nat.zero_le _, rfl, ⟨G', HRG1.out, by rw [Nat.zero_mul]; exact HSUM.out.rebase _ _⟩, Only.refl _ _, fun _ => rfl⟩
          case round =>
            clear HSUM HRG1
            obtain ⟨m, hm, rfl, ⟨G2, hrg2, hsum2⟩, honly, hzero⟩ := hrel
            have HZ := toHid hzero
            clear hzero
            by_cases hml : m < wd (q + 1)
            · have hmm : (m + 1) * wd q ≤ wd (q + 1) * wd q := Nat.mul_le_mul_right _ (by omega)
              have hms : (m + 1) * wd q = m * wd q + wd q := Nat.succ_mul _ _
              have hq0 : 0 ≤ (m : Int) * (wd q : Int) := by rw [mul_cast']; omega
              have hq1 : (m : Int) * (wd q : Int) ≤ 131072 := by rw [mul_cast']; omega
              have hq2e : ((m : Int) + 1) * (wd q : Int) = (((m + 1) * wd q : Nat) : Int) := by simp
              have hq2 : 0 ≤ ((m : Int) + 1) * (wd q : Int) := by rw [hq2e]; omega
              have hq3 : ((m : Int) + 1) * (wd q : Int) ≤ 131072 := by rw [hq2e]; omega
              obtain ⟨ar, cr, hsr, har, hcr, -⟩ := slice_run g1 (wd (q + 1) * wd q) d1 (m * wd q) ((m + 1) * wd q) (wd q) ((m : Int) * (wd q : Int)) (((m : Int) + 1) * (wd q : Int)) (mul_cast' _ _) hq2e hms (by omega)
              have HAR : Hid (0 < wd q → ar = some ⟨bg, off wd (q + 1) + m * wd q, none⟩) := fun h => har bg _ h (HG1.out (by omega))
              have hg2' := HG2.out (by omega)
              subst hg2'
              have hrow2 := hrg2 (by omega)
              have cg2 : wr.cell? ⟨bg, off wd (q + 1) + wd (q + 1) * wd q + m, none⟩ = some (.float .f64 (G2 (off wd (q + 1) + wd (q + 1) * wd q + m))) := hrow2.cell (by omega)
              have fg2 := hrow2.frozen (off wd (q + 1) + wd (q + 1) * wd q + m)
              have cd : wr.cell? ⟨bd, m, none⟩ = some (.float .f64 (v m)) := (honly.cell (by show bd ≠ bg; omega)).trans (HRD1.out.cell hml)
              have hcq2 := (honly.cell (p := ⟨ba, q, none⟩) (by show ba ≠ bg; omega)).trans hcq
              have hne1 : ba ≠ bg := by omega
              have hne2 : bg ≠ ba := by omega
              have hi0 : (q : Int) < (N : Int) + 1 := by omega
              have HB : Hid (∀ W r n, Eqv r (can .add (G2 (off wd (q + 1) + wd (q + 1) * wd q + m)) (dlt wd N P X T (q + 1) m)) → W = (wr.drewN n).setCell ⟨bg, off wd (q + 1) + wd (q + 1) * wd q + m, none⟩ (.float .f64 r) →
                  (∃ G' : Nat → Nat, W.rowIs bg 32 ng (fun i => .float .f64 (G' i)) ∧ Sum G D G' (off wd (q + 1)) (m * wd q) (off wd (q + 1) + wd (q + 1) * wd q) (m + 1) (off wd (q + 2)) (off wd (N + 1))) ∧ Only bg wb W) := by
                intro W r n hr hW
                subst hW
                refine ⟨⟨_, ((rowIs_drewN hrow2 n).set _ _).congr fun i hi => ?_, hsum2.bias (r := r) (by omega) (by have := HO.out; have := HM.out; omega) (p := off wd (q + 1) + wd (q + 1) * wd q + m) rfl ?_⟩, (honly.drewN n).setCell _ _⟩
                · by_cases e : i = off wd (q + 1) + wd (q + 1) * wd q + m
                  · simp [e]
                  · simp [e]
                · rw [← HD.out]
                  unfold inc
                  rw [gD_bias wd _ _ N q m hlt hml]
                  exact hr
              have HE : Hid (∀ W, Eqv (fop .add (G2 (off wd (q + 1) + wd (q + 1) * wd q + m)) (v m) W) (can .add (G2 (off wd (q + 1) + wd (q + 1) * wd q + m)) (dlt wd N P X T (q + 1) m))) := fun W => fop_eqv W (Eqv.refl _) (HV.out m hml)
              clear har hms hmm hq2e hsum2 hrow2 hrg2
              go_wp2
              clear cg2 fg2 cd hcq2 hsr
              go_loopw [117] (fun i wi => ∃ t : Nat, t ≤ wd q ∧ i = .int .i64 (t : Int) ∧ (∃ G' : Nat → Nat, wi.rowIs bg 32 ng (fun i => .float .f64 (G' i)) ∧
                  Sum G D G' (off wd (q + 1)) (m * wd q + t) (off wd (q + 1) + wd (q + 1) * wd q) (m + 1) (off wd (q + 2)) (off wd (N + 1))) ∧ Only bg wb wi) (fun i _ => wd q - (intOf i).toNat)
              case atStart =>
                obtain ⟨r1, r2⟩ := HB.out _ _ _ (HE.out _) rfl
                exact ⟨0, Nat.zero_le _, rfl, r1, r2⟩
              case round =>
                clear HB HE honly
                obtain ⟨t, ht, rfl, ⟨G3, hrow3, hsum3⟩, honly⟩ := hrel
                by_cases htl : t < wd q
                · have har' := HAR.out (by omega)
                  subst har'
                  have hal' := hal (by omega)
                  subst hal'
                  have hmm : (m + 1) * wd q ≤ wd (q + 1) * wd q := Nat.mul_le_mul_right _ (by omega)
                  have hms : (m + 1) * wd q = m * wd q + wd q := Nat.succ_mul _ _
                  have cg3 : wr.cell? ⟨bg, off wd (q + 1) + m * wd q + t, none⟩ = some (.float .f64 (G3 (off wd (q + 1) + m * wd q + t))) := hrow3.cell (by omega)
                  have fg3 := hrow3.frozen (off wd (q + 1) + m * wd q + t)
                  have cA : wr.cell? ⟨bb, oo + t, none⟩ = some (.float .f64 (A t)) := (honly.cell (by exact hbbg)).trans (HA.out t htl)
                  have htb : (t : Int) ≤ 1048576 := by omega
                  have HB : Hid (∀ W r n, Eqv r (can .add (G3 (off wd (q + 1) + m * wd q + t)) (can .mul (dlt wd N P X T (q + 1) m) (lev wd N P X q t))) → W = (wr.drewN n).setCell ⟨bg, off wd (q + 1) + m * wd q + t, none⟩ (.float .f64 r) →
                      (∃ G' : Nat → Nat, W.rowIs bg 32 ng (fun i => .float .f64 (G' i)) ∧ Sum G D G' (off wd (q + 1)) (m * wd q + (t + 1)) (off wd (q + 1) + wd (q + 1) * wd q) (m + 1) (off wd (q + 2)) (off wd (N + 1))) ∧ Only bg wb W) := by
                    intro W r n hr hW
                    subst hW
                    refine ⟨⟨_, ((rowIs_drewN hrow3 n).set _ _).congr fun i hi => ?_, hsum3.weight (r := r) (by omega) (by have := HO.out; have := HM.out; omega) (p := off wd (q + 1) + m * wd q + t) (by omega) ?_⟩, (honly.drewN n).setCell _ _⟩
                    · by_cases e : i = off wd (q + 1) + m * wd q + t
                      · simp [e]
                      · simp [e]
                    · rw [← HD.out]
                      unfold inc
                      rw [Nat.add_assoc (off wd (q + 1)), gD_weight wd _ _ N q m t hlt hml htl, ← Nat.add_assoc]
                      exact hr
                  have HE : Hid (∀ W W', Eqv (fop .add (G3 (off wd (q + 1) + m * wd q + t)) (fop .mul (v m) (A t) W) W') (can .add (G3 (off wd (q + 1) + m * wd q + t)) (can .mul (dlt wd N P X T (q + 1) m) (lev wd N P X q t)))) :=
                    fun W W' => fop_eqv W' (Eqv.refl _) ((fop_eqv W (HV.out m hml) (HAE.out t htl)).trans (Eqv.refl _))
                  clear hms hmm hsum3 hrow3
                  go_wp2
                  go_roundw
                  case rel =>
                    obtain ⟨r1, r2⟩ := HB.out _ _ _ (HE.out _ _) rfl
                    exact ⟨t + 1, by omega, by go_num, r1, r2⟩
                  case measure => simp [intOf]; omega
                · have htq : t = wd q := by omega
                  subst htq
                  have HR3 := toHid hrow3
                  have HS3 := toHid hsum3
                  clear hrow3 hsum3 hadd hmul hst hap hax hp hx
                  go_wp2
                  go_roundw
                  case rel => exact ⟨m + 1, by omega, by go_num, ⟨G3, fun _ => HR3.out, by rw [Nat.succ_mul]; exact HS3.out⟩, honly, fun h => absurd h (by omega)⟩
                  case measure => simp [intOf]; omega
            · have hmw : m = wd (q + 1) := by omega
              subst hmw
              have HR2 := toHid hrg2
              have HS2 : Hid (Sum G D G2 0 0 0 0 (off wd (q + 1)) (off wd (N + 1))) := hsum2.down rfl (by have := HO.out; have := HM.out; omega) (off_mono wd (q + 2) (N + 1) (by omega)) 0 0
              have hbut2 : But w.heap.size ng bg w wr := by
                by_cases h0 : 0 < ng
                · exact hbut1.trans (But.of_only honly (.inr ⟨rfl, h0⟩))
                · rw [HZ.out (by omega)]; exact hbut1
              clear hrg2 hsum2
              by_cases hq0 : q = 0
              · subst hq0
                go_wp2
                go_end0
                have hs := HS2.out
                exact ⟨rfl, G2, HR2.out, fun k hk => (hs k).1 (by have : off wd (0 + 1) = 0 := rfl; omega), fun k hk => (hs k).2 (by omega), hbut2⟩
              · obtain ⟨wc, rfl⟩ : ∃ wc, wc = wr := ⟨_, rfl⟩
                have hmk := makeF (wd q) hwk0
                have hq1 : ((q : Int) + 1 == 1) = false := by simp; omega
                have hcq2 := (honly.cell (p := ⟨ba, q, none⟩) (by show ba ≠ bg; omega)).trans hcq
                have hbac : ba < wc.heap.size := by have := honly.size; omega
                have hwbc : wb.heap.size ≤ wc.heap.size := by have := honly.size; omega
                have HON := toHid honly
                have hboxr := (honly.cell (p := ⟨w.heap.size, 0, none⟩) (by show w.heap.size ≠ bg; omega)).trans hboxb
                have hmader := HMD.out.only honly (by omega) (fun j h1 h2 => by have := HMD.out.at_ j h1 h2; omega)
                have HMR := toHid hmader
                have HBX := toHid hboxr
                have HBU := toHid hbut2
                clear honly hmader hboxr hbut2 hbut1 hboxb hcq
                go_wp2
                clear hmk hq1
                go_loopw [139] (fun i wi => ∃ m : Nat, m ≤ wd q ∧ i = .int .i64 (m : Int) ∧ (∃ bv : Nat → Nat, wi.rowIs wc.heap.size 32 (wd q) (fun i => .float .f64 (bv i)) ∧ (∀ j, j < m → Eqv (bv j) (dlt wd N P X T q j)) ∧ ∀ j, m ≤ j → bv j = 0) ∧ Below wc.heap.size wc wi) (fun i _ => wd q - (intOf i).toNat)
                case atStart => exact ⟨0, Nat.zero_le _, rfl, ⟨fun _ => 0, World.rowIs_made wc (.float .f64 0) (wd q) 32, fun j h => by omega, fun j _ => rfl⟩, (Below.refl _ _).alloc (Nat.le_refl _) _⟩
                case round =>
                  obtain ⟨m, hm, rfl, ⟨bv, hrb, hbv, hbz⟩, hbr⟩ := hrel
                  by_cases hml : m < wd q
                  · have hal' := hal (by omega)
                    subst hal'
                    have hcqr := (hbr.cell (p := ⟨ba, q, none⟩) (by show ba < wc.heap.size; omega)).trans hcq2
                    have cA0 : wc.cell? ⟨bb, oo + m, none⟩ = some (.float .f64 (A m)) := (HON.out.cell (by exact hbbg)).trans (HA.out m hml)
                    have cA := (hbr.cell (cell_lt cA0)).trans cA0
                    have HLE : Hid (le0 (A m) = le0 (lev wd N P X q m)) := le0_eqv (HAE.out m hml)
                    have HDL := toHid (dlt_step wd N P X T q hlt m)
                    have HRB := toHid hrb
                    have HBV := toHid hbv
                    have HBZ := toHid hbz
                    have hi0 : (q : Int) < (N : Int) + 1 := by omega
                    have hmb : (m : Int) ≤ 1048576 := by omega
                    clear hrb hbv hbz cA0
                    cases hl : le0 (A m) with
                    | true =>
                      have HL := toHid hl
                      have hor : FloatKind.f64.format.order (A m) 0 = some .lt ∨ FloatKind.f64.format.order (A m) 0 = some .eq := by simpa [le0] using hl
                      clear hl
                      rcases hor with ho | ho
                      all_goals
                        go_wp2
                        go_roundw
                        case rel =>
                          refine ⟨m + 1, by omega, by go_num, ⟨bv, HRB.out, fun j hj => ?_, fun j hj => HBZ.out j (by omega)⟩, hbr⟩
                          by_cases e : j = m
                          · subst e
                            rw [HBZ.out j (Nat.le_refl _), HDL.out, ← HLE.out, HL.out]
                            exact Eqv.refl _
                          · exact HBV.out j (by omega)
                        case measure => simp [intOf]; omega
                    | false =>
                      have HDL2 : Hid (dlt wd N P X T q m = gsum P (off wd (q + 1)) (wd q) m (dlt wd N P X T (q + 1)) (wd (q + 1))) := by
                        have h := HDL.out
                        rw [← HLE.out, hl] at h
                        exact h
                      have hl2 : (FloatKind.f64.format.order (A m) 0 == some .lt) = false ∧ (FloatKind.f64.format.order (A m) 0 == some .eq) = false := by
                        unfold le0 at hl
                        exact Bool.or_eq_false_iff.1 hl
                      obtain ⟨hl3, hl4⟩ := hl2
                      clear hl HDL HLE
                      go_wp2
                      clear hl3 hl4 hcqr cA
                      go_loopw [153] (fun i wi => ∃ t : Nat, t ≤ wd (q + 1) ∧ i = .int .i64 (t : Int) ∧ (∃ bv : Nat → Nat, wi.rowIs wc.heap.size 32 (wd q) (fun i => .float .f64 (bv i)) ∧ (∀ j, j < m → Eqv (bv j) (dlt wd N P X T q j)) ∧
                          Eqv (bv m) (gsum P (off wd (q + 1)) (wd q) m (dlt wd N P X T (q + 1)) t) ∧ ∀ j, m + 1 ≤ j → bv j = 0) ∧ Below wc.heap.size wc wi) (fun i _ => wd (q + 1) - (intOf i).toNat)
                      case atStart => exact ⟨0, Nat.zero_le _, rfl, ⟨bv, HRB.out, HBV.out, by rw [HBZ.out m (Nat.le_refl _)]; exact Eqv.refl _, fun j hj => HBZ.out j (by omega)⟩, hbr⟩
                      case round =>
                        clear HRB HBV HBZ hbr
                        obtain ⟨t, ht, rfl, ⟨bv, hrb, hbv, hbm, hbz⟩, hbr⟩ := hrel
                        by_cases htl : t < wd (q + 1)
                        · have hrt := row_lt htl hml
                          have ha1' := HA1.out (by omega)
                          subst ha1'
                          have cd0 : wc.cell? ⟨bd, t, none⟩ = some (.float .f64 (v t)) := (HON.out.cell (by show bd ≠ bg; omega)).trans (HRD1.out.cell htl)
                          have cd := (hbr.cell (cell_lt cd0)).trans cd0
                          have cp1 : wr.cell? ⟨bp, op + off wd (q + 1) + (t * wd q + m), none⟩ = some (.float .f64 (P (off wd (q + 1) + (t * wd q + m)))) := by
                            have h0 := hp (off wd (q + 1) + (t * wd q + m)) (by omega)
                            have h := (HBU.out.cell (cell_lt h0) npg).trans h0
                            rw [← Nat.add_assoc] at h
                            exact (hbr.cell (cell_lt h)).trans h
                          have cb : wr.cell? ⟨wc.heap.size, m, none⟩ = some (.float .f64 (bv m)) := hrb.cell hml
                          have fb := hrb.frozen m
                          have hidx : ((t : Int) * (wd q : Int) + (m : Int)).toNat = t * wd q + m := by rw [mul_cast']; omega
                          have hj0 : 0 ≤ (t : Int) * (wd q : Int) := by rw [mul_cast']; omega
                          have hj1 : (t : Int) * (wd q : Int) ≤ 131072 := by rw [mul_cast']; omega
                          have hj2 : (t : Int) * (wd q : Int) + (m : Int) < (wd (q + 1) : Int) * (wd q : Int) := by rw [mul_cast', mul_cast']; omega
                          have hj3 : 0 ≤ (t : Int) * (wd q : Int) + (m : Int) := by omega
                          have HB : Hid (∀ W r n, Eqv r (gsum P (off wd (q + 1)) (wd q) m (dlt wd N P X T (q + 1)) (t + 1)) → W = (wr.drewN n).setCell ⟨wc.heap.size, m, none⟩ (.float .f64 r) →
                              (∃ bv : Nat → Nat, W.rowIs wc.heap.size 32 (wd q) (fun i => .float .f64 (bv i)) ∧ (∀ j, j < m → Eqv (bv j) (dlt wd N P X T q j)) ∧
                          Eqv (bv m) (gsum P (off wd (q + 1)) (wd q) m (dlt wd N P X T (q + 1)) (t + 1)) ∧ ∀ j, m + 1 ≤ j → bv j = 0) ∧ Below wc.heap.size wc W) := by
                            intro W r n hr hW
                            subst hW
                            have ho : Only wc.heap.size wr ((wr.drewN n).setCell ⟨wc.heap.size, m, none⟩ (.float .f64 r)) := ((Only.refl _ _).drewN n).setCell m _
                            refine ⟨⟨fun i => if i = m then r else bv i, ((rowIs_drewN hrb n).set m _).congr fun i hi => ?_, fun j hj => ?_, ?_, fun j hj => ?_⟩, hbr.trans (ho.below (Nat.le_refl _))⟩
                            · by_cases e : i = m
                              · simp [e]
                              · simp [e]
                            · simp only [if_neg (show j ≠ m by omega)]; exact hbv j hj
                            · simp only [if_true]; exact hr
                            · simp only [if_neg (show j ≠ m by omega)]; exact hbz j (by omega)
                          have HE : Hid (∀ W W', Eqv (fop .add (bv m) (fop .mul (P (off wd (q + 1) + (t * wd q + m))) (v t) W) W') (gsum P (off wd (q + 1)) (wd q) m (dlt wd N P X T (q + 1)) (t + 1))) :=
                            fun W W' => fop_eqv W' hbm (fop_eqv W (Eqv.refl _) (HV.out t htl))
                          clear hrb hbv hbm hbz cd0 hrt hp hx hw
                          go_wp2
                          go_region
                          go_wp2
                          go_roundw
                          case rel =>
                            obtain ⟨r1, r2⟩ := HB.out _ _ _ (HE.out _ _) rfl
                            exact ⟨t + 1, by omega, by go_num, r1, r2⟩
                          case measure => simp [intOf]; omega
                        · have htq : t = wd (q + 1) := by omega
                          subst htq
                          have HRB := toHid hrb
                          have HBV := toHid hbv
                          have HBM := toHid hbm
                          have HBZ := toHid hbz
                          clear hrb hbv hbm hbz hp hx hw hadd hmul hst hap hax
                          go_wp2
                          go_roundw
                          case rel =>
                            refine ⟨m + 1, by omega, by go_num, ⟨bv, HRB.out, fun j hj => ?_, HBZ.out⟩, hbr⟩
                            by_cases e : j = m
                            · subst e
                              rw [HDL2.out]
                              exact HBM.out
                            · exact HBV.out j (by omega)
                          case measure => simp [intOf]; omega
                  · have hmq : m = wd q := by omega
                    subst hmq
                    have HRB := toHid hrb
                    have HBV := toHid hbv
                    clear hrb hbv hbz hp hx hw hadd hmul hst hap hax
                    have hsq : wb.heap.size ≤ wr.heap.size := by have := hbr.size; omega
                    go_wp2
                    go_roundw
                    case rel =>
                      refine ⟨q, by omega, .inl (by omega), by go_num, ⟨wc.heap.size, bv, G2, rfl, ?_, HRB.out, HBV.out, fun h => rowIs_below (HR2.out h) hbr (HR2.out h).lt, HS2.out⟩, (hbr.cell (cell_lt HBX.out)).trans HBX.out, HMR.out.below hbr, HBU.out.trans (But.of_below (hbr.mono HBU.out.size))⟩
                      have := HBU.out.size
                      omega
                    case measure => simp [intOf]

end Go.Proofs.Qxb6603460a
