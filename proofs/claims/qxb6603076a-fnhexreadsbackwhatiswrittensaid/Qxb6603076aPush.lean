import Derived.Test.Qxb6603076aZZNext
import Derived.ArgAppend
import Derived.OpenShut
namespace Go.Proofs.Qxb6603076a
open Go.ChangeShapes Go.WideShapes Go.ChangeAt Go.RowKit
set_option linter.unusedVariables false

/-- 'append(d, v)' within the capacity of a row. -/
theorem wpList_push {P : Program} (w : World) {ops : Array Oper} {rest : List Oper} {o : Oper} {a : Act} {Q : Exit → Act → World → Prop}
    (hg : o.guard = none) (s x : Operand) (t : TypeId) (hop : o.op = Op.call { callee := Callee.builtin Builtin.append, args := #[s, x], argTypes := #[t, t] })
    (e : TypeId) (i : TypeInfo) (h1 : P.underlying t = some (.slice e)) (h2 : P.info? e = some i) (h4 : i.size = 1)
    (b n cap : Nat) (f : Nat → Value) (hs : a.eval s = .slice (some ⟨b, 0, none⟩) n cap) (hrow : w.rowIs b e cap f) (hn : n < cap)
    (ad : Nat) (c : Nat) (v : Value) (hx : a.eval x = .slice (some ⟨ad, 0, none⟩) 1 c) (hv : w.cell? ⟨ad, 0, none⟩ = some v) (h1c : v.oneCell' = true)
    (hK : wpList P ops Q rest (a.put o.dst (.slice (some ⟨b, 0, none⟩) (n + 1) cap)) (w.setCell ⟨b, n, none⟩ v)) :
    wpList P ops Q (o :: rest) a w := by
  refine wpList_plain hg fun K hK' => ?_
  have hrun := run_append_room_cells (P := P) w t o.type e i h1 h2 b 0 n cap ⟨ad, 0, none⟩ 1 c [v] (by simp [h4])
    (by intro j u hj
        match j, hj with
        | 0, hj => simp at hj; subst hj; simpa [Addr.add] using hv)
    (by intro u hu; simp at hu; subst hu; exact h1c) (by omega)
    (by intro j hj
        have : j = 0 := by simpa using hj
        subst this
        have := hrow.cell hn
        simp [h4, this])
    (by intro j hj
        have : j = 0 := by simpa using hj
        subst this
        simp [h4]
        exact hrow.frozen n)
  have he : w.setCells b (0 + n * i.size) [v] = w.setCell ⟨b, n, none⟩ v := by simp [World.setCells, h4]
  rw [he] at hrun
  unfold Oper.wp
  simp [execOp, hop, resolve, invoke, builtin, hs, hx, hrun, Result.andThen]
  exact hK' _ _ hK

/-- The bytes that are laid so far: the first m of them are as G says. -/
def Laid (w : World) (g cap m : Nat) (G : Nat → Int) : Prop := ∃ f, w.rowIs g 5 cap f ∧ ∀ j, j < m → f j = .int .u8 (G j)

theorem Laid.push {w : World} {g cap m : Nat} {G : Nat → Int} (h : Laid w g cap m G) (o : Obj) (v : Int) (hv : v = G m) :
    Laid ((w.alloc o).setCell ⟨g, m, none⟩ (.int .u8 v)) g cap (m + 1) G := by
  obtain ⟨f, hr, hf⟩ := h
  refine ⟨_, (hr.alloc o).set m _, fun j hj => ?_⟩
  by_cases e : j = m
  · subst e; simp [hv]
  · simp [e]; exact hf j (by omega)

theorem Laid.push' {w : World} {g cap m : Nat} {G : Nat → Int} (h : Laid w g cap m G) (o : Obj) (v : Int) (hv : v = G m) :
    Laid ((w.setCell ⟨g, m, none⟩ (.int .u8 v)).alloc o) g cap (m + 1) G := by
  obtain ⟨f, hr, hf⟩ := h
  refine ⟨_, (hr.set m _).alloc o, fun j hj => ?_⟩
  by_cases e : j = m
  · subst e; simp [hv]
  · simp [e]; exact hf j (by omega)

theorem below_push {B : Nat} {a w : World} (h : Below B a w) (hB : B ≤ w.heap.size) (o : Obj) {g : Nat} (hg : B ≤ g) (k : Nat) (v : Value) :
    Below B a ((w.setCell ⟨g, k, none⟩ v).alloc o) := (h.setCell hg v).alloc (by simpa [World.setCell] using hB) o

theorem Laid.cell {w : World} {g cap m : Nat} {G : Nat → Int} (h : Laid w g cap m G) (hm : m ≤ cap) {i : Nat} (hi : i < m) : w.cell? ⟨g, i, none⟩ = some (.int .u8 (G i)) := by
  obtain ⟨f, hr, hf⟩ := h
  rw [hr.cell (by omega), hf i hi]

theorem Laid.lt {w : World} {g cap m : Nat} {G : Nat → Int} (h : Laid w g cap m G) : g < w.heap.size := by
  obtain ⟨f, hr, hf⟩ := h
  exact hr.lt

theorem laid_made (w : World) (cap : Nat) (G : Nat → Int) : Laid (w.alloc (.cells (madeCells #[.int .u8 0] cap) 5)) w.heap.size cap 0 G :=
  ⟨_, World.rowIs_made w (.int .u8 0) cap 5, fun j hj => by omega⟩

theorem make0 (c : Int) (k : Nat) (hc : c = (k : Int)) (hk : k ≤ 2000000) (wx : World) :
    (Instr.makeSlice 22 (.int .i64 0) (.int .i64 c)).run Try.prog wx = .ok (.slice (some ⟨wx.heap.size, 0, none⟩) 0 k) (wx.alloc (.cells (madeCells #[.int .u8 0] k) 5)) := by
  subst hc
  obtain ⟨i, hi, hz, hs, hb⟩ := info_parts Try.info5
  have hr := run_make (P := Try.prog) wx 22 5 i (.int .u8 0) Try.underlying22 hi hz .i64 .i64 0 k (Int.le_refl _) (by omega) (by rw [hb]; omega) (by omega)
  simp only [Int.toNat_zero, Int.toNat_natCast, hs, Nat.mul_one] at hr
  exact hr

theorem IsRow.below {k : IntKind} {w w' : World} {a : Option Addr} {len cap : Nat} {zs : List Int} (h : IsRow k w a len cap zs) (hb : Below w.heap.size w w') : IsRow k w' a len cap zs := by
  rcases h with h | ⟨x, h0, h1, h2, h3, h4, h5⟩
  · exact .inl h
  · exact .inr ⟨x, h0, h1, h2, h3, fun i hi => (hb.cell (cell_lt (h4 i hi))).trans (h4 i hi), h5⟩

/-- An element that came in is a byte. -/
theorem IsRow.byte {w : World} {a : Option Addr} {len cap : Nat} {zs : List Int} (h : IsRow .u8 w a len cap zs) (i : Nat) : 0 ≤ zs.getD i 0 ∧ zs.getD i 0 ≤ 255 := by
  rcases h with ⟨_, _, _, rfl⟩ | ⟨x, h0, h1, h2, h3, h4, h5⟩
  · simp
  · by_cases hi : i < zs.length
    · have := h5 zs[i] (List.getElem_mem hi)
      have e : zs.getD i 0 = zs[i] := by simp [hi]
      rw [e]
      exact bounds_u8 this
    · simp [List.getElem?_eq_none (by omega : zs.length ≤ i)]

end Go.Proofs.Qxb6603076a
