import Derived.Test.Qxb6603076aZZNext
namespace Go.Proofs.Qxb6603076a.fnNextExact
open Go.ChangeShapes Go.WideShapes Go.ChangeAt Go.RowKit
set_option linter.unusedVariables false

set_option maxHeartbeats 2000000 in
theorem walk (a0 : Option Addr) (len0 cap0 : Nat) (z0 : List Int) (a1 : Int) (a2 : Int) (a3 : Int) (w : World) (w0 : IsRow .u8 w a0 len0 cap0 z0) (w1 : (Lit.int .i64 a1).wf = true) (w2 : (Lit.int .i64 a2).wf = true) (w3 : (Lit.int .u8 a3).wf = true) :
    Calls Try.prog 5 #[.slice a0 len0 cap0, .int .i64 a1, .int .i64 a2, .int .u8 a3] w fun e w' => e = .returned (.bool true) ∧ Below w.heap.size w w' := by
  by_cases hlen : 1048576 < len0
  · go_enter Try.func5, Try.ntmps5
    go_wp2_with fail
    refine (bytes13_no a0 len0 cap0 a1 a2 a3 w (by omega)).mono ?_
    rintro e w' ⟨rfl, rfl⟩
    go_wp2
    go_ret
    exact ⟨rfl, Below.refl _ _⟩
  have hlen' : (len0 : Int) ≤ 1048576 := by omega
  by_cases hneg : a1 < 0
  · go_enter Try.func5, Try.ntmps5
    go_wp2_with fail
    refine (bytes13_yes a0 len0 cap0 a1 a2 a3 w (by omega)).mono ?_
    rintro e w' ⟨rfl, rfl⟩
    go_wp2
    go_ret
    exact ⟨rfl, Below.refl _ _⟩
  obtain ⟨p, rfl⟩ : ∃ p : Nat, a1 = (p : Int) := ⟨a1.toNat, by omega⟩
  have b1 : decide ((1048576 : Int) < (len0 : Int)) = false := decide_eq_false (by omega)
  have b2 : decide ((p : Int) < 0) = false := decide_eq_false (by omega)
  go_enter Try.func5, Try.ntmps5
  go_wp2_with fail
  refine (bytes13_yes a0 len0 cap0 p a2 a3 w (by omega)).mono ?_
  rintro e w' ⟨rfl, rfl⟩
  go_wp2_with fail
  refine (clone_any a0 len0 cap0 z0 _ w0 (by omega)).mono ?_
  rintro e wc ⟨a', bd, rfl, ha, hne, hd, hbel⟩
  go_wp2_with fail
  refine (zzNext_cases bd len0 p a' (fun i => z0.getD i 0) a2 a3 _ (by omega) ha hne hd).mono ?_
  rintro e wz ⟨q, hsk, hbz, hsz, hres⟩
  have hB : Below w'.heap.size w' wz := hbel.trans (hbz.mono hbel.size)
  have hd' : ∀ i, i < len0 → wz.cell? ⟨bd, i, none⟩ = some (.int .u8 (z0.getD i 0)) := fun i hi => (hbz.cell (cell_lt (hd i hi))).trans (hd i hi)
  obtain ⟨s1, s2, s3, s4, s5⟩ := hsk
  clear hbz hsz hd hne hbel
  by_cases hpn : len0 ≤ p
  · have s3' := s3 hpn
    subst s3'
    rcases hres with ⟨h1, _⟩ | ⟨_, rfl⟩
    · omega
    go_wp2
    go_ret
    exact ⟨rfl, hB⟩
  have s2' := s2 (by omega)
  have ha' := ha (by omega)
  subst ha'
  clear s2 s3 ha
  have g1 : decide ((q : Int) < (p : Int)) = false := decide_eq_false (by omega)
  have g2 : decide ((len0 : Int) < (q : Int)) = false := decide_eq_false (by omega)
  have g1' : decide (q < p) = false := decide_eq_false (by omega)
  have g2' : decide (len0 < q) = false := decide_eq_false (by omega)
  rcases hres with ⟨h1, h2, rfl⟩ | ⟨h1, rfl⟩
  · have H2 : Hid (z0.getD q 0 = a3) := h2
    clear h2
    go_wp2
    go_loop [13] (fun i => ∃ k : Nat, p ≤ k ∧ k ≤ q ∧ i = .int .i64 k) (fun i => q - (intOf i).toNat)
    case atStart => exact ⟨p, Nat.le_refl _, s1, rfl⟩
    case round =>
      obtain ⟨k, hk1, hk2, rfl⟩ := hrel
      by_cases hlt : k < q
      · have hkl : k < len0 := by omega
        have hck := hd' k hkl
        have hs := s4 k hk1 hlt
        have hs' : isSp (z0.getD k 0) = true := hs
        generalize z0.getD k 0 = zk at hck hs'
        clear hs s4 s5 hd'
        go_wp2_with (go_at_call 11; refine (isSpace_any _ _).mono ?_; rintro e w' ⟨rfl, rfl⟩; rw [hs'])
        go_round
        case rel => exact ⟨k + 1, by omega, by omega, by go_num⟩
        case measure => simp [intOf]; omega
      · have hck := hd' q h1
        have hs' : isSp (z0.getD q 0) = false := s5 h1
        rw [H2.out] at hck hs'
        clear s4 s5 hd' H2
        go_wp2_with (go_at_call 11; refine (isSpace_any _ _).mono ?_; rintro e w' ⟨rfl, rfl⟩; rw [hs'])
        go_ret
        exact ⟨rfl, hB⟩
  · go_wp2
    go_loop [13] (fun i => ∃ k : Nat, p ≤ k ∧ k ≤ q ∧ i = .int .i64 k) (fun i => q - (intOf i).toNat)
    case atStart => exact ⟨p, Nat.le_refl _, s1, rfl⟩
    case round =>
      obtain ⟨k, hk1, hk2, rfl⟩ := hrel
      by_cases hlt : k < q
      · have hkl : k < len0 := by omega
        have hck := hd' k hkl
        have hs := s4 k hk1 hlt
        have hs' : isSp (z0.getD k 0) = true := hs
        generalize z0.getD k 0 = zk at hck hs'
        clear hs s4 s5 hd' h1
        go_wp2_with (go_at_call 11; refine (isSpace_any _ _).mono ?_; rintro e w' ⟨rfl, rfl⟩; rw [hs'])
        go_round
        case rel => exact ⟨k + 1, by omega, by omega, by go_num⟩
        case measure => simp [intOf]; omega
      · by_cases hql : q < len0
        · have hck := hd' q hql
          have hs' : isSp (z0.getD q 0) = false := s5 hql
          have hz : (z0.getD q 0 == a3) = false := by
            simp only [beq_eq_false_iff_ne]; exact fun e => h1 ⟨hql, e⟩
          generalize z0.getD q 0 = zk at hck hs' hz
          clear s4 s5 hd' h1
          go_wp2_with (go_at_call 11; refine (isSpace_any _ _).mono ?_; rintro e w' ⟨rfl, rfl⟩; rw [hs'])
          go_ret
          exact ⟨rfl, hB⟩
        · have hqd : decide ((q : Int) < (len0 : Int)) = false := decide_eq_false (by omega)
          clear s4 s5 hd' h1
          go_wp2_with fail
          go_ret
          exact ⟨rfl, hB⟩

end Go.Proofs.Qxb6603076a.fnNextExact
