import Derived.Test.Qxb6603460aOneLaw
namespace Go.Proofs.Qxb6603460a
open Go.ChangeShapes Go.WideShapes Go.ChangeAt Go.RowKit
set_option linter.unusedVariables false

/-- A sum over alike values is the same sum. -/
theorem dot_eqv {P Q A A' : Nat → Nat} {o o' s s' : Nat} (hs : s = s') : ∀ n, (∀ j, j < n → P (o + j) = Q (o' + j)) → (∀ j, j < n → Eqv (A j) (A' j)) → dot P o A s n = dot Q o' A' s' n
  | 0, _, _ => hs
  | n + 1, h1, h2 => by
    simp only [dot]
    rw [dot_eqv hs n (fun j hj => h1 j (by omega)) (fun j hj => h2 j (by omega)), h1 n (by omega), can_eqv (Eqv.refl _) (h2 n (by omega))]

/-- The offsets of the upper network. -/
theorem off_split (wd : Nat → Nat) (k : Nat) : ∀ m, off wd (k + m + 1) = off wd (k + 1) + off (fun j => wd (k + j)) (m + 1)
  | 0 => by simp [off]
  | m + 1 => by
    have h := off_split wd k m
    have e1 : off wd (k + (m + 1) + 1) = off wd (k + m + 1) + wd (k + m + 1) * (wd (k + m) + 1) := off_succ wd (k + m)
    have e2 : off (fun j => wd (k + j)) (m + 1 + 1) = off (fun j => wd (k + j)) (m + 1) + wd (k + (m + 1)) * (wd (k + m) + 1) := off_succ _ m
    rw [e1, e2, h]
    show _ + wd (k + (m + 1)) * (wd (k + m) + 1) = _
    omega

/-- The upper network, run on level k, gives the levels from k on. -/
theorem lev_upper {wd : Nat → Nat} {k M : Nat} {P X X' : Nat → Nat} (hX : ∀ i, i < wd k → Eqv (X' i) (lev wd (k + M) P X k i)) :
    ∀ m, ∀ i, i < wd (k + m) → Eqv (lev (fun j => wd (k + j)) M (fun i => P (off wd (k + 1) + i)) X' m i) (lev wd (k + M) P X (k + m) i)
  | 0, i, hi => hX i hi
  | m + 1, i, hi => by
    have ih := lev_upper (M := M) (P := P) (X := X) hX m
    have e : lev wd (k + M) P X (k + (m + 1)) i = act (k + M) (k + m + 1) (pre wd P (lev wd (k + M) P X (k + m)) (k + m) i) := rfl
    rw [e]
    have e2 : lev (fun j => wd (k + j)) M (fun i => P (off wd (k + 1) + i)) X' (m + 1) i = act M (m + 1) (pre (fun j => wd (k + j)) (fun i => P (off wd (k + 1) + i)) (lev (fun j => wd (k + j)) M (fun i => P (off wd (k + 1) + i)) X' m) m i) := rfl
    rw [e2]
    have ho := off_split wd k m
    have hp : pre (fun j => wd (k + j)) (fun i => P (off wd (k + 1) + i)) (lev (fun j => wd (k + j)) M (fun i => P (off wd (k + 1) + i)) X' m) m i = pre wd P (lev wd (k + M) P X (k + m)) (k + m) i := by
      unfold pre
      refine dot_eqv ?_ _ (fun j hj => ?_) (fun j hj => ih j hj)
      · show P (off wd (k + 1) + (off (fun j => wd (k + j)) (m + 1) + wd (k + (m + 1)) * wd (k + m) + i)) = P (off wd (k + m + 1) + wd (k + m + 1) * wd (k + m) + i)
        rw [ho]; congr 1; show _ = _ + _ + wd (k + (m + 1)) * wd (k + m) + i; omega
      · show P (off wd (k + 1) + (off (fun j => wd (k + j)) (m + 1) + i * wd (k + m) + j)) = P (off wd (k + m + 1) + i * wd (k + m) + j)
        rw [ho]; congr 1; omega
    rw [hp]
    unfold act
    by_cases h : m + 1 < M
    · rw [if_pos h, if_pos (by omega)]; exact Eqv.refl _
    · rw [if_neg h, if_neg (by omega)]; exact Eqv.refl _

/-- The lower network gives the levels below its last. -/
theorem lev_lower {wd : Nat → Nat} {k N : Nat} {P X : Nat → Nat} (hk : k ≤ N) : ∀ m, m < k → ∀ i, lev wd k P X m i = lev wd N P X m i
  | 0, _, i => rfl
  | m + 1, h, i => by
    simp only [lev, act, if_pos h, if_pos (show m + 1 < N by omega)]
    congr 1
    exact dot_congr rfl _ (fun j _ => rfl) (fun j _ => lev_lower hk m (by omega) j)

theorem lev_lower_last {wd : Nat → Nat} {k N : Nat} {P X : Nat → Nat} (hk : k + 1 ≤ N) (i : Nat) : lev wd N P X (k + 1) i = act N (k + 1) (lev wd (k + 1) P X (k + 1) i) := by
  have e : lev wd (k + 1) P X (k + 1) i = pre wd P (lev wd (k + 1) P X k) k i := by
    show act (k + 1) (k + 1) _ = _
    unfold act
    rw [if_neg (by omega)]
  rw [e]
  show act N (k + 1) _ = _
  congr 1
  exact dot_congr rfl _ (fun j _ => rfl) (fun j _ => (lev_lower hk k (by omega) j).symm)

/-! ### cuts -/
theorem sliceI_lo (b n k m : Nat) (K : Int) (hK : K = (k : Int)) (h : n = k + (m + 1)) (wx : World) :
    (Instr.slice 22 (.slice (some ⟨b, 0, none⟩) n n) (some (.int .i64 K)) none none).run Try.prog wx = .ok (.slice (some ⟨b, k, none⟩) (m + 1) (m + 1)) wx := by
  subst hK
  have hz : (sizeOf (Try.prog.elem 22)).run Try.prog wx = .ok 1 wx := by kernel_rfl
  rw [run_slice_l wx 22 (some ⟨b, 0, none⟩) n n (by kernel_rfl) .i64 k (by omega) (by omega), hz]
  simp only [Result.andThen, sliced, Int.toNat_natCast]
  rw [if_neg (by omega), show n - k = m + 1 from by omega]
  simp [Addr.add]
  omega

theorem sliceI_hi (b n k : Nat) (K : Int) (hK : K = (k : Int)) (h : k ≤ n) (h0 : 0 < n) (wx : World) :
    (Instr.slice 22 (.slice (some ⟨b, 0, none⟩) n n) none (some (.int .i64 K)) none).run Try.prog wx = .ok (.slice (some ⟨b, 0, none⟩) k n) wx := by
  subst hK
  have hz : (sizeOf (Try.prog.elem 22)).run Try.prog wx = .ok 1 wx := by kernel_rfl
  rw [run_slice_h wx 22 (some ⟨b, 0, none⟩) n n (by kernel_rfl) .i64 k (by omega) (by omega), hz]
  simp only [Result.andThen, sliced, Int.toNat_natCast]
  rw [if_neg (by omega)]
  simp [Addr.add]

theorem sliceF_lo (a : Option Addr) (n c m : Nat) (C : Int) (hC : C = (c : Int)) (h : n = c + m) :
    ∃ a', (∀ wx, (Instr.slice 23 (.slice a n n) (some (.int .i64 C)) none none).run Try.prog wx = .ok (.slice a' m m) wx) ∧ ∀ b, 0 < m → a = some ⟨b, 0, none⟩ → a' = some ⟨b, c, none⟩ := by
  subst hC
  refine ⟨if n = c then a else a.map (·.add (c * 1)), fun wx => ?_, fun b h0 e => ?_⟩
  · have hz : (sizeOf (Try.prog.elem 23)).run Try.prog wx = .ok 1 wx := by kernel_rfl
    rw [run_slice_l wx 23 a n n (by kernel_rfl) .i64 c (by omega) (by omega), hz]
    simp [Result.andThen, sliced]
    omega
  · subst e
    rw [if_neg (by omega)]
    simp [Addr.add]
    omega

theorem sliceF_hi (a : Option Addr) (n c : Nat) (C : Int) (hC : C = (c : Int)) (h : c ≤ n) :
    ∃ a', (∀ wx, (Instr.slice 23 (.slice a n n) none (some (.int .i64 C)) none).run Try.prog wx = .ok (.slice a' c n) wx) ∧ ∀ b, 0 < c → a = some ⟨b, 0, none⟩ → a' = some ⟨b, 0, none⟩ := by
  subst hC
  refine ⟨if n = 0 then a else a.map (·.add (0 * 1)), fun wx => ?_, fun b h0 e => ?_⟩
  · have hz : (sizeOf (Try.prog.elem 23)).run Try.prog wx = .ok 1 wx := by kernel_rfl
    rw [run_slice_h wx 23 a n n (by kernel_rfl) .i64 c (by omega) (by omega), hz]
    simp [Result.andThen, sliced]
  · subst e
    rw [if_neg (by omega)]
    simp [Addr.add]

theorem bytes8_yes (a : Option Addr) (n c : Nat) (a' : Option Addr) (n' c' : Nat) (a'' : Option Addr) (n'' c'' : Nat) (p : Int) (w : World) (hn : (n : Int) + (n' : Int) + (n'' : Int) ≤ 1048576) :
    Calls Try.prog 8 #[.slice a n c, .slice a' n' c', .slice a'' n'' c'', .int .i64 p] w fun e w' => e = .returned (.bool true) ∧ w' = w := by
  have h1 : (n : Int) ≤ 1048576 := by omega
  have h2 : (n' : Int) ≤ 1048576 := by omega
  have h3 : (n'' : Int) ≤ 1048576 := by omega
  have h4 : (n : Int) + (n' : Int) ≤ 1048576 := by omega
  go_enter Try.func8, Try.ntmps8
  go_wp2
  go_ret
  exact ⟨rfl, rfl⟩

theorem bytes8_no (a : Option Addr) (n c : Nat) (a' : Option Addr) (n' c' : Nat) (a'' : Option Addr) (n'' c'' : Nat) (p : Int) (w : World) (hn : 1048576 < (n : Int) + (n' : Int) + (n'' : Int)) :
    Calls Try.prog 8 #[.slice a n c, .slice a' n' c', .slice a'' n'' c'', .int .i64 p] w fun e w' => e = .returned (.bool false) ∧ w' = w := by
  by_cases h1 : (n : Int) ≤ 1048576
  · by_cases h2 : (n' : Int) ≤ 1048576
    · by_cases h4 : (n : Int) + (n' : Int) ≤ 1048576
      · by_cases h3 : (n'' : Int) ≤ 1048576
        all_goals
          go_enter Try.func8, Try.ntmps8
          go_wp2
          go_ret
          exact ⟨rfl, rfl⟩
      · go_enter Try.func8, Try.ntmps8
        go_wp2
        go_ret
        exact ⟨rfl, rfl⟩
    · go_enter Try.func8, Try.ntmps8
      go_wp2
      go_ret
      exact ⟨rfl, rfl⟩
  · go_enter Try.func8, Try.ntmps8
    go_wp2
    go_ret
    exact ⟨rfl, rfl⟩

end Go.Proofs.Qxb6603460a
