import Derived.Test.Qxb6603460aClone
namespace Go.Proofs.Qxb6603460a
open Go.ChangeShapes Go.WideShapes Go.ChangeAt Go.RowKit
set_option linter.unusedVariables false

/-- The widths are a network whose parameters fit. -/
structure Good (z : Nat → Int) (wd : Nat → Nat) (n limit : Nat) : Prop where
  n1 : 1 ≤ n
  n2 : n ≤ 4096
  eq : ∀ j, j < n → z j = (wd j : Int)
  le : ∀ j, j < n → wd j ≤ 1048576
  fit : off wd n ≤ limit

def toW (z : Nat → Int) (j : Nat) : Nat := (z j).toNat

theorem quo_ok (a o i : Int) (h0 : 0 < o) (h : i ≤ a / o) : o * i ≤ a := by
  have h1 := Int.mul_le_mul_of_nonneg_left h (Int.le_of_lt h0)
  have h2 := Int.mul_ediv_self_le (x := a) (k := o) (by omega)
  omega

def TotPost (z : Nat → Int) (n limit : Nat) (w : World) (e : Ending) (w' : World) : Prop :=
  ∃ t ok, e = .returned (.tuple #[.int .i64 t, .bool ok]) ∧ w' = w ∧ (ok = true → Good z (toW z) n limit ∧ t = (off (toW z) n : Nat))

set_option maxHeartbeats 1000000 in
theorem total_any (a : Option Addr) (n c limit : Nat) (z : Nat → Int) (w : World) (h : IIn w a n c z) (hlim : limit ≤ 131072) (hn : n ≤ 131072) :
    Calls Try.prog 9 #[.slice a n c, .int .i64 (limit : Int)] w (TotPost z n limit w) := by
  by_cases h1 : n < 1
  · have h1' : decide ((n : Int) < 1) = true := decide_eq_true (by omega)
    go_enter Try.func9, Try.ntmps9
    go_wp2
    go_ret2
    exact ⟨0, false, rfl, rfl, fun h => by cases h⟩
  have h1' : decide ((n : Int) < 1) = false := decide_eq_false (by omega)
  by_cases h2 : 4096 < n
  · have h2' : decide ((4096 : Int) < (n : Int)) = true := decide_eq_true (by omega)
    go_enter Try.func9, Try.ntmps9
    go_wp2
    go_ret2
    exact ⟨0, false, rfl, rfl, fun h => by cases h⟩
  have h2' : decide ((4096 : Int) < (n : Int)) = false := decide_eq_false (by omega)
  rcases h.at_ with h3 | h3 | ⟨b, o, h3, hc⟩
  · exact absurd (h.nil h3) (by omega)
  · omega
  subst h3
  clear h
  go_enter Try.func9, Try.ntmps9
  go_wp2
  go_loop [22] (fun i => ∃ k : Nat, k ≤ n ∧ i = .int .i64 (k : Int) ∧ ∀ j, j < k → 0 ≤ z j ∧ z j ≤ 1048576) (fun i => n - (intOf i).toNat)
  case atStart => exact ⟨0, Nat.zero_le _, rfl, fun j h => by omega⟩
  case round =>
    obtain ⟨k, hk, rfl, hz⟩ := hrel
    by_cases hlt : k < n
    · have hck := hc k hlt
      generalize hzk : z k = zk at hck
      have HZ : Hid (z k = zk) := hzk
      have HA : Hid (∀ j, j < k → 0 ≤ z j ∧ z j ≤ 1048576) := hz
      clear hzk hz hc
      by_cases g1 : zk < 0
      · have g1' : decide (zk < 0) = true := decide_eq_true g1
        go_wp2
        go_ret2
        exact ⟨0, false, rfl, rfl, fun h => by cases h⟩
      · have g1' : decide (zk < 0) = false := decide_eq_false g1
        by_cases g2 : 1048576 < zk
        · have g2' : decide (1048576 < zk) = true := decide_eq_true g2
          go_wp2
          go_ret2
          exact ⟨0, false, rfl, rfl, fun h => by cases h⟩
        · have g2' : decide (1048576 < zk) = false := decide_eq_false g2
          go_wp2
          go_round
          case rel =>
            refine ⟨k + 1, by omega, by go_num, fun j hj => ?_⟩
            by_cases e : j = k
            · subst e; rw [HZ.out]; omega
            · exact HA.out j (by omega)
          case measure => simp [intOf]; omega
    · have hkn : k = n := by omega
      subst hkn
      have HE : Hid (∀ j, j < k → z j = (toW z j : Int)) := fun j hj => by have := hz j hj; unfold toW; omega
      have HL : Hid (∀ j, j < k → toW z j ≤ 1048576) := fun j hj => by have := hz j hj; unfold toW; omega
      have hc' : ∀ i, i < k → w.cell? ⟨b, o + i, none⟩ = some (.int .i64 (toW z i : Int)) := fun i hi => by rw [← HE.out i hi]; exact hc i hi
      clear hc hz
      generalize hwd : toW z = wd at *
      have HW : Hid (toW z = wd) := hwd
      clear hwd
      go_wp2
      go_loop [8, 9] (fun t i => ∃ l : Nat, l + 1 ≤ k ∧ i = .int .i64 ((l : Int) + 1) ∧ t = .int .i64 (off wd (l + 1) : Nat) ∧ off wd (l + 1) ≤ limit) (fun _ i => k + 1 - (intOf i).toNat)
      case atStart => exact ⟨0, by omega, rfl, rfl, Nat.zero_le _⟩
      case round =>
        obtain ⟨l, hl, rfl, rfl, hoff⟩ := hrel
        by_cases hll : l + 1 < k
        · have c0 := hc' l (by omega)
          have c1 := hc' (l + 1) hll
          have w0 := HL.out l (by omega)
          have w1 := HL.out (l + 1) (by omega)
          have HO : Hid (off wd (l + 2) = off wd (l + 1) + wd (l + 1) * (wd l + 1)) := off_succ wd l
          have i0 : (l : Int) < (k : Int) := by omega
          have i1 : (l : Int) + 1 < (k : Int) := by omega
          have hrest : ∀ (hm0 : 0 ≤ (wd (l + 1) : Int) * ((wd l : Int) + 1)) (hm1 : (wd (l + 1) : Int) * ((wd l : Int) + 1) ≤ (limit : Int) - (off wd (l + 1) : Nat)), off wd (l + 2) ≤ limit ∧ ((off wd (l + 2) : Nat) : Int) = (off wd (l + 1) : Nat) + (wd (l + 1) : Int) * ((wd l : Int) + 1) := by
            intro hm0 hm1
            have e : (wd (l + 1) : Int) * ((wd l : Int) + 1) = ((wd (l + 1) * (wd l + 1) : Nat) : Int) := by simp
            rw [e] at hm1 ⊢
            rw [HO.out]
            omega
          have HR : Hid (∀ (hm0 : 0 ≤ (wd (l + 1) : Int) * ((wd l : Int) + 1)) (hm1 : (wd (l + 1) : Int) * ((wd l : Int) + 1) ≤ (limit : Int) - (off wd (l + 1) : Nat)), off wd (l + 2) ≤ limit ∧ ((off wd (l + 2) : Nat) : Int) = (off wd (l + 1) : Nat) + (wd (l + 1) : Int) * ((wd l : Int) + 1)) := hrest
          clear hrest
          have hm0 : 0 ≤ (wd (l + 1) : Int) * ((wd l : Int) + 1) := Int.mul_nonneg (by omega) (by omega)
          by_cases g0 : wd (l + 1) = 0
          · have g0' : decide ((0 : Int) < (wd (l + 1) : Int)) = false := decide_eq_false (by omega)
            have g0n : decide (0 < wd (l + 1)) = false := decide_eq_false (by omega)
            have hm1 : (wd (l + 1) : Int) * ((wd l : Int) + 1) ≤ (limit : Int) - (off wd (l + 1) : Nat) := by rw [g0]; simp; omega
            clear g0
            go_wp2
            go_round
            case rel =>
              obtain ⟨r1, r2⟩ := HR.out hm0 hm1
              exact ⟨l + 1, by omega, by go_num, by rw [r2], r1⟩
            case measure => simp [intOf]; omega
          · have g0' : decide ((0 : Int) < (wd (l + 1) : Int)) = true := decide_eq_true (by omega)
            have g0'' : (0 : Int) < (wd (l + 1) : Int) := by omega
            have g0n : decide (0 < wd (l + 1)) = true := decide_eq_true (by omega)
            by_cases g1 : ((limit : Int) - (off wd (l + 1) : Nat)) / (wd (l + 1) : Int) < (wd l : Int) + 1
            · have g1' : decide (((limit : Int) - (off wd (l + 1) : Nat)) / (wd (l + 1) : Int) < (wd l : Int) + 1) = true := decide_eq_true g1
              go_wp2
              go_ret2
              exact ⟨0, false, rfl, rfl, fun h => by cases h⟩
            · have g1' : decide (((limit : Int) - (off wd (l + 1) : Nat)) / (wd (l + 1) : Int) < (wd l : Int) + 1) = false := decide_eq_false g1
              have hm1 : (wd (l + 1) : Int) * ((wd l : Int) + 1) ≤ (limit : Int) - (off wd (l + 1) : Nat) := quo_ok _ _ _ g0'' (by omega)
              go_wp2
              go_round
              case rel =>
                obtain ⟨r1, r2⟩ := HR.out hm0 hm1
                exact ⟨l + 1, by omega, by go_num, by rw [r2], r1⟩
              case measure => simp [intOf]; omega
        · have hlk : l + 1 = k := by omega
          go_wp2
          go_ret2
          refine ⟨_, true, rfl, rfl, fun _ => ?_⟩
          rw [HW.out]
          exact ⟨⟨by omega, by omega, HE.out, HL.out, by rw [← hlk]; exact hoff⟩, by rw [← hlk]⟩

end Go.Proofs.Qxb6603460a
