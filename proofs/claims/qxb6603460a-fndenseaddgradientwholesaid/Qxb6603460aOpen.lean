import Derived.Test.Qxb6603460aClone
import Derived.OpenShut
import Derived.ShutString
import Derived.ChangeOld
import Derived.Deep.Slices
namespace Go.Proofs.Qxb6603460a
open Go.ChangeShapes Go.WideShapes Go.ChangeAt Go.RowKit
set_option linter.unusedVariables false

theorem own : ownKnob Try.prog.godebug = none := by kernel_rfl
theorem laidOut : laidOutB Try.prog = true := by kernel_rfl
theorem Try.cells32 : Try.prog.cellsOf 32 = 1 := by kernel_rfl
theorem Try.cells3 : Try.prog.cellsOf 3 = 1 := by kernel_rfl

section
variable {H : Type} {enc : TypeId × Value → H} {W : World} {base : Nat} {held : Bool}

theorem trod_float_cell {fuel : Nat} {v : Value} {x : DataW H × List MemPlace} (h : DataW.trod enc Try.prog W base (fun _ => true) held fuel 32 [v] = some x) : ∃ b, v = .float .f64 b := by
  cases fuel with
  | zero => simp [DataW.trod] at h
  | succ n =>
    unfold DataW.trod at h
    rw [Try.underlying32] at h
    split at h <;> simp_all

theorem open_F {a : Option Addr} {n c : Nat} {d : DataW H} {ps : List MemPlace} (h : DataW.Trod enc Try.prog W base (fun _ => true) held 23 (.slice a n c) d ps) : ∃ f, FIn W a n c f := by
  obtain ⟨fuel, hf⟩ := h
  rcases Deep.open_slice1 Try.underlying23 Try.cells32 hf with ⟨hcs, _⟩ | ⟨x, len, cap, m, k, V, D, Pl, hcs, _, hl, hm, hmm, _, hV⟩
  · simp [Value.cells] at hcs
    obtain ⟨rfl, rfl, rfl⟩ := hcs
    exact ⟨fun _ => 0, Nat.le_refl _, .inl rfl, fun _ => rfl⟩
  · simp [Value.cells] at hcs
    obtain ⟨rfl, rfl, rfl⟩ := hcs
    simp only [if_true] at hmm
    subst hmm
    by_cases h0 : n = 0
    · exact ⟨fun _ => 0, hl, .inr (.inl h0), fun h => by cases h⟩
    · obtain ⟨b, o, spot⟩ := x
      have hsp : spot = none := by simpa [Addr.add] using World.cell?_spot (hV 0 (by omega)).1
      subst hsp
      have hF : ∀ i, i < n → ∃ q, V i = .float .f64 q := fun i hi => trod_float_cell (hV i (by omega)).2
      refine ⟨fun i => match V i with | .float _ q => q | _ => 0, hl, .inr (.inr ⟨b, o, rfl, fun i hi => ?_⟩), fun h => by cases h⟩
      obtain ⟨q, hq⟩ := hF i hi
      have h1 := (hV i (by omega)).1
      rw [add_plain, hq] at h1
      rw [h1, hq]

theorem open_I {a : Option Addr} {n c : Nat} {d : DataW H} {ps : List MemPlace} (h : DataW.Trod enc Try.prog W base (fun _ => true) held 22 (.slice a n c) d ps) : ∃ f, IIn W a n c f := by
  obtain ⟨fuel, hf⟩ := h
  rcases open_ints Try.underlying22 Try.underlying3 Try.cells3 hf with ⟨hcs, _⟩ | ⟨x, l, c', zs, hcs, _, hl, hm, hz, _, hcell, hwz⟩
  · simp [Value.cells] at hcs
    obtain ⟨rfl, rfl, rfl⟩ := hcs
    exact ⟨fun _ => 0, Nat.le_refl _, .inl rfl, fun _ => rfl⟩
  · simp [Value.cells] at hcs
    obtain ⟨rfl, rfl, rfl⟩ := hcs
    simp only [if_true] at hz
    by_cases h0 : n = 0
    · exact ⟨fun _ => 0, hl, .inr (.inl h0), fun h => by cases h⟩
    · obtain ⟨b, o, spot⟩ := x
      have hsp : spot = none := by simpa [Addr.add] using World.cell?_spot (hcell 0 (by omega))
      subst hsp
      exact ⟨fun i => zs.getD i 0, hl, .inr (.inr ⟨b, o, rfl, fun i hi => by rw [← add_plain]; exact hcell i (by omega)⟩), fun h => by cases h⟩
end

end Go.Proofs.Qxb6603460a
