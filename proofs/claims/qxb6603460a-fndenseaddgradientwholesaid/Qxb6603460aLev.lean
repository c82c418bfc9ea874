import Derived.Test.Qxb6603460aLayer
namespace Go.Proofs.Qxb6603460a
open Go.ChangeShapes Go.WideShapes Go.ChangeAt Go.RowKit
set_option linter.unusedVariables false

/-- s + P[o] A[0] + P[o+1] A[1] + .., as the program sums it. -/
def dot (P : Nat → Nat) (o : Nat) (A : Nat → Nat) (s : Nat) : Nat → Nat
  | 0 => s
  | j + 1 => can .add (dot P o A s j) (can .mul (P (o + j)) (A j))

/-- A unit of layer l+1 ahead of its activation, over the level below. -/
def pre (wd : Nat → Nat) (P A : Nat → Nat) (l i : Nat) : Nat :=
  dot P (off wd (l + 1) + i * wd l) A (P (off wd (l + 1) + wd (l + 1) * wd l + i)) (wd l)

def act (last l x : Nat) : Nat := if l < last then relu x else x

/-- The levels. -/
def lev (wd : Nat → Nat) (last : Nat) (P X : Nat → Nat) : Nat → Nat → Nat
  | 0, i => X i
  | l + 1, i => act last (l + 1) (pre wd P (lev wd last P X l) l i)

/-- Only block b has turned. -/
structure Only (b : Nat) (w w' : World) : Prop where
  os : w'.os = w.os
  tape : w'.tape = w.tape
  output : w'.output = w.output
  size : w'.heap.size = w.heap.size
  block : ∀ k, k ≠ b → w'.heap[k]? = w.heap[k]?

theorem Only.refl (b : Nat) (w : World) : Only b w w := ⟨rfl, rfl, rfl, rfl, fun _ _ => rfl⟩
theorem Only.trans {b : Nat} {w w' w'' : World} (h : Only b w w') (k : Only b w' w'') : Only b w w'' :=
  ⟨k.os.trans h.os, k.tape.trans h.tape, k.output.trans h.output, k.size.trans h.size, fun i hi => (k.block i hi).trans (h.block i hi)⟩
theorem Only.drewN {b : Nat} {w w' : World} (h : Only b w w') (n : Nat) : Only b w (w'.drewN n) := ⟨h.os, h.tape, h.output, h.size, h.block⟩
theorem Only.setCell {b : Nat} {w w' : World} (h : Only b w w') (o : Nat) (v : Value) : Only b w (w'.setCell ⟨b, o, none⟩ v) :=
  h.trans ⟨rfl, rfl, rfl, by simp [World.setCell], fun k hk => Below.heap_setCell _ _ _ _ hk⟩
theorem Only.cell {b : Nat} {w w' : World} (h : Only b w w') {p : Addr} (hp : p.block ≠ b) : w'.cell? p = w.cell? p := World.cell?_of_block (w := w) (h.block p.block hp)
theorem Only.row {b b' : Nat} {w w' : World} (h : Only b w w') {t : TypeId} {n : Nat} {f : Nat → Value} (hr : w.rowIs b' t n f) (hne : b' ≠ b) : w'.rowIs b' t n f := hr.of_block (h.block _ hne)
theorem Only.below {b : Nat} {w w' : World} (h : Only b w w') {B : Nat} (hB : B ≤ b) : Below B w w' :=
  ⟨h.os, h.tape, h.output, by rw [h.size]; exact Nat.le_refl _, fun k hk => h.block k (by omega)⟩

theorem rowIs_drewN {w : World} {b : Nat} {t : TypeId} {n : Nat} {f : Nat → Value} (h : w.rowIs b t n f) (m : Nat) : (w.drewN m).rowIs b t n f := h
theorem rowIs_below {w w' : World} {b B : Nat} {t : TypeId} {n : Nat} {f : Nat → Value} (h : w.rowIs b t n f) (hb : Below B w w') (hB : b < B) : w'.rowIs b t n f := h.of_block (hb.block b hB)

/-- Cell m of the slice of levels: the features, then the rows that the call has made. -/
def rowV (xv : Value) (bl wd : Nat → Nat) (m : Nat) : Value := if m = 0 then xv else .slice (some ⟨bl m, 0, none⟩) (wd m) (wd m)

/-- The levels below l stand in memory (the cells of the slice of levels are laid below lr). -/
structure Made (w : World) (B ba L lr l : Nat) (wd : Nat → Nat) (xv : Value) (bl : Nat → Nat) (val lv : Nat → Nat → Nat) : Prop where
  row : w.rowIs ba 23 L (fun m => if m < lr then rowV xv bl wd m else .slice none 0 0)
  base : B ≤ ba
  rows : ∀ m, 1 ≤ m → m < l → w.rowIs (bl m) 32 (wd m) (fun i => .float .f64 (val m i))
  at_ : ∀ m, 1 ≤ m → m < l → B ≤ bl m
  eqv : ∀ m, 1 ≤ m → m < l → ∀ i, i < wd m → Eqv (val m i) (lv m i)

theorem Made.below {w w' : World} {B ba L lr l : Nat} {wd : Nat → Nat} {xv : Value} {bl : Nat → Nat} {val lv : Nat → Nat → Nat} (h : Made w B ba L lr l wd xv bl val lv) (hb : Below w.heap.size w w') : Made w' B ba L lr l wd xv bl val lv :=
  ⟨rowIs_below h.row hb h.row.lt, h.base, fun m h1 h2 => rowIs_below (h.rows m h1 h2) hb (h.rows m h1 h2).lt, h.at_, h.eqv⟩

theorem Made.only {w w' : World} {B ba L lr l b : Nat} {wd : Nat → Nat} {xv : Value} {bl : Nat → Nat} {val lv : Nat → Nat → Nat} (h : Made w B ba L lr l wd xv bl val lv) (hb : Only b w w') (h1 : ba ≠ b) (h2 : ∀ m, 1 ≤ m → m < l → bl m ≠ b) : Made w' B ba L lr l wd xv bl val lv :=
  ⟨hb.row h.row h1, h.base, fun m a b => hb.row (h.rows m a b) (h2 m a b), h.at_, h.eqv⟩

/-- A row is laid: its cell in the slice of levels. -/
theorem Made.lay {w : World} {B ba L l : Nat} {wd : Nat → Nat} {xv : Value} {bl : Nat → Nat} {val lv : Nat → Nat → Nat} (h : Made w B ba L l l wd xv bl val lv) (hl : 1 ≤ l) (o : Obj)
    (h2 : ∀ m, 1 ≤ m → m < l → bl m ≠ ba) :
    Made ((w.setCell ⟨ba, l, none⟩ (.slice (some ⟨w.heap.size, 0, none⟩) (wd l) (wd l))).alloc o) B ba L (l + 1) l wd xv (fun m => if m = l then w.heap.size else bl m) val lv := by
  refine ⟨?_, h.base, fun m h1 h3 => ?_, fun m h1 h3 => ?_, h.eqv⟩
  · refine ((h.row.set l _).alloc o).congr fun m hm => ?_
    by_cases e : m = l
    · subst e
      rw [if_pos rfl, if_pos (by omega)]
      unfold rowV
      rw [if_neg (by omega)]
      simp only [if_true]
    · rw [if_neg e]
      by_cases h4 : m < l
      · rw [if_pos h4, if_pos (by omega)]
        unfold rowV
        by_cases h5 : m = 0
        · rw [if_pos h5, if_pos h5]
        · rw [if_neg h5, if_neg h5]
          simp only [if_neg e]
      · rw [if_neg h4, if_neg (by omega)]
  · have e : m ≠ l := by omega
    simp only [if_neg e]
    exact ((h.rows m h1 h3).setOther (h2 m h1 h3) _).alloc o
  · have e : m ≠ l := by omega
    simp only [if_neg e]
    exact h.at_ m h1 h3

/-- A row is filled. -/
theorem Made.fill {w : World} {B ba L l : Nat} {wd : Nat → Nat} {xv : Value} {bl : Nat → Nat} {val lv : Nat → Nat → Nat} {v : Nat → Nat} (h : Made w B ba L (l + 1) l wd xv bl val lv)
    (hr : w.rowIs (bl l) 32 (wd l) (fun i => .float .f64 (v i))) (hB : B ≤ bl l) (he : ∀ i, i < wd l → Eqv (v i) (lv l i)) :
    Made w B ba L (l + 1) (l + 1) wd xv bl (fun m => if m = l then v else val m) lv := by
  refine ⟨h.row, h.base, fun m h1 h2 => ?_, fun m h1 h2 => ?_, fun m h1 h2 => ?_⟩
  · by_cases e : m = l
    · subst e; simpa using hr
    · simp only [if_neg e]; exact h.rows m h1 (by omega)
  · by_cases e : m = l
    · subst e; exact hB
    · exact h.at_ m h1 (by omega)
  · by_cases e : m = l
    · subst e; simpa using he
    · simp only [if_neg e]; exact h.eqv m h1 (by omega)

/-- The level k as a slice. -/
theorem Made.get {w : World} {B ba L lr l : Nat} {wd : Nat → Nat} {ax : Option Addr} {bx ox nx cx : Nat} {X : Nat → Nat} {bl : Nat → Nat} {val lv : Nat → Nat → Nat} (h : Made w B ba L lr l wd (.slice ax nx cx) bl val lv)
    (hlv : ∀ i, lv 0 i = X i) (hx0 : wd 0 ≤ nx) (hax : 0 < nx → ax = some ⟨bx, ox, none⟩) (hx : ∀ i, i < nx → w.cell? ⟨bx, ox + i, none⟩ = some (.float .f64 (X i)))
    (k : Nat) (hk : k < l) (hl : l ≤ lr) (hkL : k < L) :
    ∃ (al : Option Addr) (bb oo nl cl : Nat) (A : Nat → Nat), w.cell? ⟨ba, k, none⟩ = some (.slice al nl cl) ∧ wd k ≤ nl ∧ (0 < nl → al = some ⟨bb, oo, none⟩) ∧ (∀ j, j < wd k → w.cell? ⟨bb, oo + j, none⟩ = some (.float .f64 (A j))) ∧ ∀ j, j < wd k → Eqv (A j) (lv k j) := by
  have hc := h.row.cell hkL
  simp only [if_pos (show k < lr by omega), rowV] at hc
  by_cases e : k = 0
  · subst e
    simp only [if_pos] at hc
    exact ⟨ax, bx, ox, nx, cx, X, hc, hx0, hax, fun j hj => hx j (by omega), fun j hj => by rw [hlv]; exact Eqv.refl _⟩
  · rw [if_neg e] at hc
    exact ⟨_, bl k, 0, _, _, val k, hc, Nat.le_refl _, fun _ => rfl, fun j hj => by rw [Nat.zero_add]; exact (h.rows k (by omega) hk).cell hj, h.eqv k (by omega) hk⟩

theorem Try.info23 : (Try.prog.info? 23).map (fun i => (i.zero, i.size, i.bytes)) = some (some (.slice none 0 0), 1, 24) := by kernel_rfl
theorem Try.info32 : (Try.prog.info? 32).map (fun i => (i.zero, i.size, i.bytes)) = some (some (.float .f64 0), 1, 8) := by kernel_rfl

theorem makeF (n : Nat) (hn : n ≤ 1048576) (wx : World) : (Instr.makeSlice 23 (.int .i64 (n : Int)) (.int .i64 (n : Int))).run Try.prog wx = .ok (.slice (some ⟨wx.heap.size, 0, none⟩) n n) (wx.alloc (.cells (madeCells #[.float .f64 0] n) 32)) :=
  run_make_row' (P := Try.prog) 23 32 (.float .f64 0) 8 Try.underlying23 Try.info32 rfl .i64 .i64 n (by omega) (by omega) wx

theorem makeFF (N : Nat) (hn : N ≤ 1048576) (wx : World) : (Instr.makeSlice 29 (.int .i64 ((N : Int) + 1)) (.int .i64 ((N : Int) + 1))).run Try.prog wx = .ok (.slice (some ⟨wx.heap.size, 0, none⟩) (N + 1) (N + 1)) (wx.alloc (.cells (madeCells #[.slice none 0 0] (N + 1)) 23)) :=
  run_make_row' (P := Try.prog) 29 23 (.slice none 0 0) 24 Try.underlying29 Try.info23 rfl .i64 .i64 (N + 1) (by omega) (by omega) wx

set_option maxHeartbeats 2000000 in
set_option maxRecDepth 100000 in
theorem levels_any (bw ow N capw : Nat) (wd : Nat → Nat) (ap : Option Addr) (bp op np cp : Nat) (P : Nat → Nat) (ax : Option Addr) (bx ox nx cx : Nat) (X : Nat → Nat) (w : World)
    (hw : ∀ j, j < N + 1 → w.cell? ⟨bw, ow + j, none⟩ = some (.int .i64 (wd j))) (hL : N + 1 ≤ 4096) (hwd : ∀ j, j < N + 1 → wd j ≤ 1048576)
    (hoff : off wd (N + 1) ≤ np) (hcap : np ≤ cp) (hnp : np ≤ 131072) (hap : 0 < np → ap = some ⟨bp, op, none⟩) (hp : ∀ i, i < np → w.cell? ⟨bp, op + i, none⟩ = some (.float .f64 (P i)))
    (hx0 : wd 0 ≤ nx) (hax : 0 < nx → ax = some ⟨bx, ox, none⟩) (hx : ∀ i, i < nx → w.cell? ⟨bx, ox + i, none⟩ = some (.float .f64 (X i))) :
    Calls Try.prog 24 #[.agg #[.slice (some ⟨bw, ow, none⟩) (N + 1) capw], .slice ap np cp, .slice ax nx cx] w fun e w' => ∃ ba bl val,
      e = .returned (.slice (some ⟨ba, 0, none⟩) (N + 1) (N + 1)) ∧ Made w' w.heap.size ba (N + 1) (N + 1) (N + 1) wd (.slice ax nx cx) bl val (lev wd N P X) ∧ Below w.heap.size w w' := by
  have hadd := fun wx x y => run_add (P := Try.prog) wx 32 x y
  have hmul := fun wx x y => run_mul (P := Try.prog) wx 32 x y
  have hmax := fun wx ts t x => run_max (P := Try.prog) wx ts t x
  have hst := fun wx a m b => run_storeF (P := Try.prog) wx a m b
  have hmk := makeFF N (by omega)
  have hm0 : (madeCells #[Value.slice none 0 0] (N + 1))[0]? = some (.slice none 0 0) := by simp [madeCells]
  go_enter Try.func24, Try.ntmps24
  go_wp2
  clear hmk hm0
  go_loopw [9] (fun i wr => ∃ k : Nat, k ≤ N ∧ i = .int .i64 ((k : Int) + 1) ∧ wr.cell? ⟨w.heap.size, 0, none⟩ = some (.slice (some ⟨bw, ow, none⟩) (N + 1) capw) ∧
      (∃ bl val, (∀ m, 1 ≤ m → m < k + 1 → bl m ≠ w.heap.size + 1) ∧ Made wr w.heap.size (w.heap.size + 1) (N + 1) (k + 1) (k + 1) wd (.slice ax nx cx) bl val (lev wd N P X)) ∧ Below w.heap.size w wr) (fun i _ => N + 1 - (intOf i).toNat)
  case atStart =>
    refine ⟨0, Nat.zero_le _, rfl, by simp, ⟨fun _ => 0, fun _ _ => 0, fun m h1 h2 => by omega, ⟨?_, by omega, fun m h1 h2 => by omega, fun m h1 h2 => by omega, fun m h1 h2 => by omega⟩⟩, ((Below.refl _ _).alloc (Nat.le_refl _) _).alloc (by simp) _⟩
    have h := World.rowIs_alloc (w.alloc (.cells #[.slice (some ⟨bw, ow, none⟩) (N + 1) capw] 42)) ((madeCells #[.slice none 0 0] (N + 1)).setIfInBounds 0 (.slice ax nx cx)) 23 (fun m => if m < 1 then rowV (.slice ax nx cx) (fun _ => 0) wd m else .slice none 0 0) (fun i hi => by
      rw [Array.getElem?_setIfInBounds]
      simp only [Array.size_setIfInBounds, size_madeCells] at hi
      by_cases h0 : i = 0
      · subst h0; simp [rowV, size_madeCells]
      · rw [if_neg (by omega), if_neg (by omega)]; simp [madeCells, hi, Nat.mod_one])
    simpa [size_madeCells] using h
  case round =>
    obtain ⟨k, hk, rfl, hbox, ⟨bl, val, hbla, hmade⟩, hbel⟩ := hrel
    by_cases hlt : k < N
    · have hsz := hmade.row.lt
      have hoffk : off wd (k + 2) ≤ np := Nat.le_trans (off_mono wd (k + 2) (N + 1) (by omega)) hoff
      have HO : Hid (off wd (k + 2) = off wd (k + 1) + wd (k + 1) * (wd k + 1)) := off_succ wd k
      have hmle : wd (k + 1) * wd k + wd (k + 1) = wd (k + 1) * (wd k + 1) := (Nat.mul_succ _ _).symm
      have hwk1 : wd (k + 1) ≤ 131072 := by have := HO.out; omega
      have hwk0 : wd k ≤ 1048576 := hwd k (by omega)
      have HM : Hid (wd (k + 1) * wd k + wd (k + 1) = wd (k + 1) * (wd k + 1)) := hmle
      clear hmle
      go_wp2_with fail
      refine (layer_any bw ow (N + 1) capw wd ap bp op np cp k _ (fun j hj => (hbel.cell (cell_lt (hw j hj))).trans (hw j hj)) (by omega) hL hwd hoffk hcap hnp hap).mono ?_
      rintro e w1 ⟨a1, c1, a2, c2, rfl, ha1, hc1, ha2, hc2, hb1⟩
      have made1 := hmade.below hb1
      have hbox1 := (hb1.cell (p := ⟨w.heap.size, 0, none⟩) (by show w.heap.size < wr.heap.size; omega)).trans hbox
      have hbel1 : Below w.heap.size w w1 := hbel.trans (hb1.mono hbel.size)
      have hs1 := hb1.size
      have hblt : ∀ m, 1 ≤ m → m < k + 1 → bl m < w1.heap.size := fun m h1 h2 => Nat.lt_of_lt_of_le (hmade.rows m h1 h2).lt hs1
      have hk0 := (hbel1.cell (cell_lt (hw k (by omega)))).trans (hw k (by omega))
      have hk1 := (hbel1.cell (cell_lt (hw (k + 1) (by omega)))).trans (hw (k + 1) (by omega))
      have hrc : w1.cell? ⟨w.heap.size + 1, k + 1, none⟩ = some (.slice none 0 0) := by
        have := made1.row.cell (i := k + 1) (by omega)
        simpa using this
      have hrf := made1.row.frozen (k + 1)
      have hmk := makeF (wd (k + 1)) (by omega)
      have hi0 : (k : Int) < (N : Int) + 1 := by omega
      have hi1 : (k : Int) + 1 < (N : Int) + 1 := by omega
      clear hmade hbel hbox hb1
      have HB : Hid (∀ m, 1 ≤ m → m < k + 1 → bl m ≠ w.heap.size + 1) := hbla
      have HBL : Hid (∀ m, 1 ≤ m → m < k + 1 → bl m < w1.heap.size) := hblt
      clear hbla hblt
      have hz1 : w.heap.size + 1 < w1.heap.size := by omega
      have hz0 : w.heap.size < w1.heap.size := by omega
      go_wp2
      have hlay := made1.lay (by omega) (.cells (madeCells #[.float .f64 0] (wd (k + 1))) 32) HB.out
      have HX0 : Hid (∀ i, lev wd N P X 0 i = X i) := fun i => rfl
      clear hmk hrc hrf hk0 hk1 made1
      go_loopw [61] (fun i wm => ∃ m : Nat, m ≤ wd (k + 1) ∧ i = .int .i64 (m : Int) ∧ (∃ v : Nat → Nat, wm.rowIs w1.heap.size 32 (wd (k + 1)) (fun i => .float .f64 (v i)) ∧ ∀ i, i < m → Eqv (v i) (lev wd N P X (k + 1) i)) ∧
          wm.cell? ⟨w.heap.size, 0, none⟩ = some (.slice (some ⟨bw, ow, none⟩) (N + 1) capw) ∧
          Made wm w.heap.size (w.heap.size + 1) (N + 1) (k + 1 + 1) (k + 1) wd (.slice ax nx cx) (fun m => if m = k + 1 then w1.heap.size else bl m) val (lev wd N P X) ∧ Below w.heap.size w wm) (fun i _ => wd (k + 1) - (intOf i).toNat)
      case atStart =>
        refine ⟨0, Nat.zero_le _, rfl, ⟨fun _ => 0, ?_, fun i h => by omega⟩, ?_, hlay, ?_⟩
        · have h := World.rowIs_made (w1.setCell ⟨w.heap.size + 1, k + 1, none⟩ (.slice (some ⟨w1.heap.size, 0, none⟩) (wd (k + 1)) (wd (k + 1)))) (.float .f64 0) (wd (k + 1)) 32
          simpa [World.setCell] using h
        · refine cell_alloc _ ?_
          rw [← hbox1]
          exact World.cell?_of_block (Below.heap_setCell _ _ _ _ (by show w.heap.size ≠ w.heap.size + 1; omega))
        · exact (hbel1.setCell (by show w.heap.size ≤ w.heap.size + 1; omega) _).alloc (by simp [World.setCell]; omega) _
      case round =>
        clear hlay hbox1
        obtain ⟨m, hm, rfl, ⟨v, hrow, hv⟩, hbox2, hmade2, hbel2⟩ := hrel
        by_cases hml : m < wd (k + 1)
        · obtain ⟨al, bb, oo, nl, cl, A, hc0, hnl, hal, hA, hAe⟩ := hmade2.get (bx := bx) (ox := ox) HX0.out hx0 hax (fun i hi => (hbel2.cell (cell_lt (hx i hi))).trans (hx i hi)) k (by omega) (by omega) (by omega)
          have hmm : (m + 1) * wd k ≤ wd (k + 1) * wd k := Nat.mul_le_mul_right _ (by omega)
          have hms : (m + 1) * wd k = m * wd k + wd k := Nat.succ_mul _ _
          have hbnd : off wd (k + 1) + wd (k + 1) * wd k + wd (k + 1) ≤ np := by have := HO.out; have := HM.out; omega
          have hq0 : 0 ≤ (m : Int) * (wd k : Int) := by rw [mul_cast']; omega
          have hq1 : (m : Int) * (wd k : Int) ≤ 131072 := by rw [mul_cast']; omega
          have hq2e : ((m : Int) + 1) * (wd k : Int) = (((m + 1) * wd k : Nat) : Int) := by simp
          have hq2 : 0 ≤ ((m : Int) + 1) * (wd k : Int) := by rw [hq2e]; omega
          have hq3 : ((m : Int) + 1) * (wd k : Int) ≤ 131072 := by rw [hq2e]; omega
          obtain ⟨ar, cr, hsr, har, hcr, -⟩ := slice_run a1 (wd (k + 1) * wd k) c1 (m * wd k) ((m + 1) * wd k) (wd k) ((m : Int) * (wd k : Int)) (((m : Int) + 1) * (wd k : Int)) (mul_cast' _ _) hq2e hms (by omega)
          have har' : 0 < wd k → ar = some ⟨bp, op + (off wd (k + 1) + m * wd k), none⟩ := fun h => by
            rw [har bp _ h (ha1 (by omega)), Nat.add_assoc]
          have ha2' := ha2 (by omega)
          subst ha2'
          have hcb : wr.cell? ⟨bp, op + off wd (k + 1) + wd (k + 1) * wd k + m, none⟩ = some (.float .f64 (P (off wd (k + 1) + wd (k + 1) * wd k + m))) := by
            have h := hp (off wd (k + 1) + wd (k + 1) * wd k + m) (by omega)
            rw [show op + (off wd (k + 1) + wd (k + 1) * wd k + m) = op + off wd (k + 1) + wd (k + 1) * wd k + m from by omega] at h
            exact (hbel2.cell (cell_lt h)).trans h
          have hcp : ∀ t, t < wd k → wr.cell? ⟨bp, op + (off wd (k + 1) + m * wd k) + t, none⟩ = some (.float .f64 (P (off wd (k + 1) + m * wd k + t))) := fun t ht => by
            have h := hp (off wd (k + 1) + m * wd k + t) (by omega)
            rw [show op + (off wd (k + 1) + m * wd k + t) = op + (off wd (k + 1) + m * wd k) + t from by omega] at h
            exact (hbel2.cell (cell_lt h)).trans h
          clear har hms hmm hq2e
          go_wp2
          go_loopw [15, 79] (fun sv i wi => ∃ t : Nat, t ≤ wd k ∧ i = .int .i64 (t : Int) ∧ (∃ s : Nat, sv = .float .f64 s ∧ Eqv s (dot P (off wd (k + 1) + m * wd k) (lev wd N P X k) (P (off wd (k + 1) + wd (k + 1) * wd k + m)) t)) ∧ ∃ n, wi = wr.drewN n) (fun _ i _ => wd k - (intOf i).toNat)
          case atStart => exact ⟨0, Nat.zero_le _, rfl, ⟨_, rfl, Eqv.refl _⟩, 0, rfl⟩
          case round =>
            obtain ⟨t, ht, rfl, ⟨sv, rfl, hsv⟩, n, rfl⟩ := hrel
            by_cases htl : t < wd k
            · have har2 := har' (by omega)
              subst har2
              have hal2 := hal (by omega)
              subst hal2
              have hct := hcp t htl
              have hAt := hA t htl
              have hnt : (t : Int) < (nl : Int) := by omega
              have HE : Hid (∀ W W', Eqv (fop .add sv (fop .mul (P (off wd (k + 1) + m * wd k + t)) (A t) W) W') (dot P (off wd (k + 1) + m * wd k) (lev wd N P X k) (P (off wd (k + 1) + wd (k + 1) * wd k + m)) (t + 1))) :=
                fun W W' => fop_eqv W' hsv ((fop_eqv W (Eqv.refl _) (hAe t htl)))
              clear hcp hA hAe hsv hrow hv hmade2 hcb
              go_wp2
              go_roundw
              case rel => exact ⟨t + 1, by omega, by go_num, ⟨_, rfl, HE.out _ _⟩, _, rfl⟩
              case measure => simp [intOf]; omega
            · have htk : t = wd k := by omega
              subst htk
              have hal1 : wr.cell? ⟨w.heap.size + 1, k + 1, none⟩ = some (.slice (some ⟨w1.heap.size, 0, none⟩) (wd (k + 1)) (wd (k + 1))) := by
                have h := hmade2.row.cell (i := k + 1) (by omega)
                simpa [rowV] using h
              have hcv : wr.cell? ⟨w1.heap.size, m, none⟩ = some (.float .f64 (v m)) := hrow.cell hml
              have hfv := hrow.frozen m
              have HS : Hid (∀ (r n : Nat), Eqv r (lev wd N P X (k + 1) m) → (∃ v' : Nat → Nat, ((wr.drewN n).setCell ⟨w1.heap.size, m, none⟩ (.float .f64 r)).rowIs w1.heap.size 32 (wd (k + 1)) (fun i => .float .f64 (v' i)) ∧ ∀ i, i < m + 1 → Eqv (v' i) (lev wd N P X (k + 1) i)) ∧
                  ((wr.drewN n).setCell ⟨w1.heap.size, m, none⟩ (.float .f64 r)).cell? ⟨w.heap.size, 0, none⟩ = some (.slice (some ⟨bw, ow, none⟩) (N + 1) capw) ∧
                  Made ((wr.drewN n).setCell ⟨w1.heap.size, m, none⟩ (.float .f64 r)) w.heap.size (w.heap.size + 1) (N + 1) (k + 1 + 1) (k + 1) wd (.slice ax nx cx) (fun m => if m = k + 1 then w1.heap.size else bl m) val (lev wd N P X) ∧ Below w.heap.size w ((wr.drewN n).setCell ⟨w1.heap.size, m, none⟩ (.float .f64 r))) := by
                intro r n hr
                have ho : Only w1.heap.size wr ((wr.drewN n).setCell ⟨w1.heap.size, m, none⟩ (.float .f64 r)) := ((Only.refl _ _).drewN n).setCell m _
                refine ⟨⟨fun i => if i = m then r else v i, ((rowIs_drewN hrow n).set m _).congr fun i hi => ?_, fun i hi => ?_⟩, (ho.cell (by show w.heap.size ≠ w1.heap.size; omega)).trans hbox2, hmade2.only ho (by omega) (fun j h1 h2 => ?_), hbel2.trans (ho.below (by omega))⟩
                · by_cases e : i = m
                  · simp [e]
                  · simp [e]
                · by_cases e : i = m
                  · subst e; simpa using hr
                  · simp only [if_neg e]; exact hv i (by omega)
                · have e : j ≠ k + 1 := by omega
                  simp only [if_neg e]
                  have := HBL.out j h1 h2
                  omega
              have HL : Hid (lev wd N P X (k + 1) m = act N (k + 1) (dot P (off wd (k + 1) + m * wd k) (lev wd N P X k) (P (off wd (k + 1) + wd (k + 1) * wd k + m)) (wd k))) := rfl
              have HSV : Hid (Eqv sv (dot P (off wd (k + 1) + m * wd k) (lev wd N P X k) (P (off wd (k + 1) + wd (k + 1) * wd k + m)) (wd k))) := hsv
              clear hcp hA hAe hsv hv hmade2 hcb hrow hbox2 hbel2
              by_cases hkn : k + 1 < N
              · have hkn' : (k : Int) + 1 < (N : Int) := by omega
                have HF : Hid (∀ W, Eqv (fmx sv W) (lev wd N P X (k + 1) m)) := fun W => by
                  rw [HL.out, act, if_pos hkn]; exact fmx_eqv W HSV.out
                go_wp2
                go_roundw
                case rel =>
                  obtain ⟨r1, r2, r3, r4⟩ := HS.out _ _ (HF.out _)
                  exact ⟨m + 1, by omega, by go_num, r1, r2, r3, r4⟩
                case measure => simp [intOf]; omega
              · have hkn' : decide ((k : Int) + 1 < (N : Int)) = false := decide_eq_false (by omega)
                have HF : Hid (Eqv sv (lev wd N P X (k + 1) m)) := by
                  rw [HL.out, act, if_neg hkn]; exact HSV.out
                go_wp2
                go_roundw
                case rel =>
                  obtain ⟨r1, r2, r3, r4⟩ := HS.out _ _ HF.out
                  exact ⟨m + 1, by omega, by go_num, r1, r2, r3, r4⟩
                case measure => simp [intOf]; omega
        · have hmw : m = wd (k + 1) := by omega
          subst hmw
          have hfill := hmade2.fill (by simpa using hrow) (by simp; omega) hv
          have HBX : Hid (wr.cell? ⟨w.heap.size, 0, none⟩ = some (.slice (some ⟨bw, ow, none⟩) (N + 1) capw)) := hbox2
          clear hmade2 hrow hv hm hml hbox2 ha1 ha2 hadd hmul hmax hap hax hp hx
          go_wp2
          go_roundw
          case rel =>
            refine ⟨k + 1, by omega, by go_num, HBX.out, ⟨_, _, fun m h1 h2 => ?_, hfill⟩, hbel2⟩
            by_cases e : m = k + 1
            · simp only [if_pos e]; omega
            · simp only [if_neg e]; exact HB.out m h1 (by omega)
          case measure => simp [intOf]; omega
    · have hkN : k = N := by omega
      subst hkN
      go_wp2
      go_ret
      exact ⟨_, bl, val, rfl, hmade, hbel⟩

end Go.Proofs.Qxb6603460a
