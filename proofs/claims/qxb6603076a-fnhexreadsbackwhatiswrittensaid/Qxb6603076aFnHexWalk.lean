import Derived.Test.Qxb6603076aZZHex
namespace Go.Proofs.Qxb6603076a.fnHexReadsBackWhatIsWritten
open Go.ChangeShapes Go.WideShapes Go.ChangeAt Go.RowKit
set_option linter.unusedVariables false

set_option maxHeartbeats 4000000 in
theorem walk (a0 : Option Addr) (len0 cap0 : Nat) (z0 : List Int) (a1 : Int) (a2 : Int) (a3 : Option Addr) (len3 cap3 : Nat) (z3 : List Int) (a4 : Int) (w : World) (w0 : IsRow .u8 w a0 len0 cap0 z0) (w1 : (Lit.int .u16 a1).wf = true) (w2 : (Lit.int .u8 a2).wf = true) (w3 : IsRow .u8 w a3 len3 cap3 z3) (w4 : (Lit.int .i64 a4).wf = true) :
    Calls Try.prog 7 #[.slice a0 len0 cap0, .int .u16 a1, .int .u8 a2, .slice a3 len3 cap3, .int .i64 a4] w fun e w' => e = .returned (.bool true) ∧ Below w.heap.size w w' := by
  by_cases hlen : 1048576 < (len0 : Int) + (len3 : Int)
  · go_enter Try.func7, Try.ntmps7
    go_wp2_with fail
    refine (bytes17_no a0 len0 cap0 a1 a2 a3 len3 cap3 a4 w hlen).mono ?_
    rintro e w' ⟨rfl, rfl⟩
    go_wp2
    go_ret
    exact ⟨rfl, Below.refl _ _⟩
  have hlen' : (len0 : Int) + (len3 : Int) ≤ 1048576 := by omega
  have hl0 : (len0 : Int) ≤ 1048576 := by omega
  have hl3 : (len3 : Int) ≤ 1048576 := by omega
  have b1 : decide ((1048576 : Int) < (len0 : Int)) = false := decide_eq_false (by omega)
  have b3 : decide ((1048576 : Int) < (len3 : Int)) = false := decide_eq_false (by omega)
  have b4 : decide ((1048576 : Int) < (len0 : Int) + (len3 : Int)) = false := decide_eq_false (by omega)
  obtain ⟨v0, v1⟩ := bounds_u16 w1
  obtain ⟨m0, m1⟩ := bounds_u8 w2
  clear w1 w2
  go_enter Try.func7, Try.ntmps7
  go_wp2_with fail
  refine (bytes17_yes a0 len0 cap0 a1 a2 a3 len3 cap3 a4 w hlen').mono ?_
  rintro e w' ⟨rfl, rfl⟩
  go_wp2_with fail
  refine (clone_any a0 len0 cap0 z0 _ w0 (by omega)).mono ?_
  rintro e wc ⟨a', bd, rfl, ha, hne, hd, hbel⟩
  go_wp2_with fail
  refine (clone_any a3 len3 cap3 z3 _ (w3.below hbel) (by omega)).mono ?_
  rintro e wq ⟨aq, bp, rfl, hap, hnep, hdp, hbelp⟩
  have hB : Below w'.heap.size w' wq := hbel.trans (hbelp.mono hbel.size)
  have hd' : ∀ i, i < len0 → wq.cell? ⟨bd, i, none⟩ = some (.int .u8 (z0.getD i 0)) := fun i hi => (hbelp.cell (cell_lt (hd i hi))).trans (hd i hi)
  have hmk := make0 ((len0 : Int) + 4 + (len3 : Int)) (len0 + 4 + len3) (by omega) (by omega)
  obtain ⟨i0, hi, hz0, hz1, hz2⟩ := info_parts Try.info5
  clear hd hne hbelp hbel w0 w3 hnep
  obtain ⟨ch, hch⟩ : ∃ ch : Nat → Int, ch = fun i => hexc (a2 / 2 ^ i % 2 == 1) (nib a1 i) := ⟨_, rfl⟩
  have HC : Hid (ch = fun i => hexc (a2 / 2 ^ i % 2 == 1) (nib a1 i)) := hch
  clear hch
  generalize hG : framed (fun i => z0.getD i 0) (fun j => z3.getD j 0) ch len0 = G
  have HG : Hid (framed (fun i => z0.getD i 0) (fun j => z3.getD j 0) ch len0 = G) := hG
  clear hG
  go_wp2
  go_loopw [11, 12] (fun s i wr => ∃ k : Nat, k ≤ len0 ∧ i = .int .i64 k ∧ s = .slice (some ⟨wq.heap.size, 0, none⟩) k (len0 + 4 + len3) ∧ Laid wr wq.heap.size (len0 + 4 + len3) k G ∧ Below wq.heap.size wq wr) (fun _ i _ => len0 - (intOf i).toNat)
  case atStart => exact ⟨0, Nat.zero_le _, rfl, rfl, laid_made _ _ _, (Below.refl _ _).alloc (Nat.le_refl _) _⟩
  case round =>
    obtain ⟨k, hk, rfl, rfl, hlaid, hbw⟩ := hrel
    have hsz := hlaid.lt
    by_cases hlt : k < len0
    · have ha' := ha (by omega)
      subst ha'
      obtain ⟨zk, hzk⟩ : ∃ zk, zk = z0.getD k 0 := ⟨_, rfl⟩
      have hck : wr.cell? ⟨bd, k, none⟩ = some (.int .u8 zk) := by rw [hzk]; exact (hbw.cell (cell_lt (hd' k hlt))).trans (hd' k hlt)
      have HZ : Hid (zk = G k) := by rw [hzk, ← HG.out, framed_lo _ _ _ _ _ hlt]; exact rfl
      obtain ⟨f, hrow, hf⟩ := id hlaid
      clear hzk hf hd' hdp HG HC
      go_wp2_with (at_builtin; refine wpList_push _ rfl (.tmp 58) (.tmp 63) 22 rfl 5 i0 Try.underlying22 hi hz1 wq.heap.size k (len0 + 4 + len3) f rfl (hrow.alloc _) (by omega) wr.heap.size 1 (.int .u8 zk) rfl (by simp) rfl ?_)
      go_roundw
      case rel => exact ⟨k + 1, by omega, by go_num, rfl, hlaid.push' _ zk HZ.out, below_push hbw (by omega) _ (Nat.le_refl _) _ _⟩
      case measure => simp [intOf]; omega
    · have hkp : k = len0 := by omega
      subst hkp
      go_wp2
      go_loopw [11, 13] (fun s i wr => ∃ j : Nat, j ≤ 4 ∧ i = .int .i64 j ∧ s = .slice (some ⟨wq.heap.size, 0, none⟩) (k + j) (k + 4 + len3) ∧ Laid wr wq.heap.size (k + 4 + len3) (k + j) G ∧ Below wq.heap.size wq wr) (fun _ i _ => 4 - (intOf i).toNat)
      case atStart => exact ⟨0, Nat.zero_le _, rfl, rfl, hlaid, hbw⟩
      case round =>
        clear hlaid hbw hsz
        obtain ⟨j, hj, rfl, rfl, hlaid, hbw⟩ := hrel
        have hsz := hlaid.lt
        by_cases hjt : j < 4
        · have HZ : Hid (hexc (a2 / 2 ^ j % 2 == 1) (nib a1 j) = G (k + j)) := by rw [← HG.out, framed_mid _ _ _ _ _ hjt, HC.out]; exact rfl
          obtain ⟨f, hrow, hf⟩ := id hlaid
          clear hf hd' hdp HG HC
          have hj4 : j = 0 ∨ j = 1 ∨ j = 2 ∨ j = 3 := by omega
          obtain ⟨nb0, nb1⟩ := nib_bd a1 j
          obtain ⟨N, hN⟩ : ∃ N : Nat, nib a1 j = (N : Int) := ⟨(nib a1 j).toNat, by omega⟩
          have hN16 : N < 16 := by omega
          have hN16' : (N : Int) < 16 := by omega
          have HN : Hid (nib a1 j = (N : Int)) := hN
          rw [hN] at HZ
          clear nb0 nb1
          rcases hj4 with rfl | rfl | rfl | rfl
          · have e1 : bits .and .i64 (a1 / 4096) 15 = (N : Int) := by rw [and15 _ (by omega) (by omega), ← hN]; simp [nib]
            have e2 : bits .and .u8 a2 1 = a2 % 2 := and1 _ (by omega) (by omega)
            clear hN
            by_cases hm : a2 % 2 = 1
            · have hm' : (a2 % 2 == 1) = true := by simp [hm]
              have HE : Hid (hexc true N = G (k + 0)) := by
                have h := HZ.out
                rw [show (a2 / 2 ^ 0 % 2 == 1) = true from by simpa using hm] at h
                exact h
              go_wp2_with (at_builtin; refine wpList_push _ rfl (.tmp 84) (.tmp 87) 22 rfl 5 i0 Try.underlying22 hi hz1 wq.heap.size k (k + 4 + len3) f rfl (hrow.alloc _) (by omega) wr.heap.size 1 _ rfl (cell_fresh _ _ _) rfl ?_)
              go_roundw
              case rel => exact ⟨1, by omega, rfl, rfl, hlaid.push' _ _ ((upper_at N hN16 _).trans HE.out), below_push hbw (by omega) _ (Nat.le_refl _) _ _⟩
              case measure => simp [intOf]
            · have hm' : (a2 % 2 == 1) = false := by simp [hm]
              have HE : Hid (hexc false N = G (k + 0)) := by
                have h := HZ.out
                rw [show (a2 / 2 ^ 0 % 2 == 1) = false from by simpa using hm] at h
                exact h
              go_wp2_with (at_builtin; refine wpList_push _ rfl (.tmp 89) (.tmp 92) 22 rfl 5 i0 Try.underlying22 hi hz1 wq.heap.size k (k + 4 + len3) f rfl (hrow.alloc _) (by omega) wr.heap.size 1 _ rfl (cell_fresh _ _ _) rfl ?_)
              go_roundw
              case rel => exact ⟨1, by omega, rfl, rfl, hlaid.push' _ _ ((lower_at N hN16 _).trans HE.out), below_push hbw (by omega) _ (Nat.le_refl _) _ _⟩
              case measure => simp [intOf]
          · have e1 : bits .and .i64 (a1 / 256) 15 = (N : Int) := by rw [and15 _ (by omega) (by omega), ← hN]; simp [nib]
            have e2 : bits .and .u8 (a2 / 2) 1 = a2 / 2 % 2 := and1 _ (by omega) (by omega)
            clear hN
            by_cases hm : a2 / 2 % 2 = 1
            · have hm' : (a2 / 2 % 2 == 1) = true := by simp [hm]
              have HE : Hid (hexc true N = G (k + 1)) := by
                have h := HZ.out
                rw [show (a2 / 2 ^ 1 % 2 == 1) = true from by simpa using hm] at h
                exact h
              go_wp2_with (at_builtin; refine wpList_push _ rfl (.tmp 84) (.tmp 87) 22 rfl 5 i0 Try.underlying22 hi hz1 wq.heap.size (k + 1) (k + 4 + len3) f rfl (hrow.alloc _) (by omega) wr.heap.size 1 _ rfl (cell_fresh _ _ _) rfl ?_)
              go_roundw
              case rel => exact ⟨2, by omega, rfl, rfl, hlaid.push' _ _ ((upper_at N hN16 _).trans HE.out), below_push hbw (by omega) _ (Nat.le_refl _) _ _⟩
              case measure => simp [intOf]
            · have hm' : (a2 / 2 % 2 == 1) = false := by simp [hm]
              have HE : Hid (hexc false N = G (k + 1)) := by
                have h := HZ.out
                rw [show (a2 / 2 ^ 1 % 2 == 1) = false from by simpa using hm] at h
                exact h
              go_wp2_with (at_builtin; refine wpList_push _ rfl (.tmp 89) (.tmp 92) 22 rfl 5 i0 Try.underlying22 hi hz1 wq.heap.size (k + 1) (k + 4 + len3) f rfl (hrow.alloc _) (by omega) wr.heap.size 1 _ rfl (cell_fresh _ _ _) rfl ?_)
              go_roundw
              case rel => exact ⟨2, by omega, rfl, rfl, hlaid.push' _ _ ((lower_at N hN16 _).trans HE.out), below_push hbw (by omega) _ (Nat.le_refl _) _ _⟩
              case measure => simp [intOf]
          · have e1 : bits .and .i64 (a1 / 16) 15 = (N : Int) := by rw [and15 _ (by omega) (by omega), ← hN]; simp [nib]
            have e2 : bits .and .u8 (a2 / 4) 1 = a2 / 4 % 2 := and1 _ (by omega) (by omega)
            clear hN
            by_cases hm : a2 / 4 % 2 = 1
            · have hm' : (a2 / 4 % 2 == 1) = true := by simp [hm]
              have HE : Hid (hexc true N = G (k + 2)) := by
                have h := HZ.out
                rw [show (a2 / 2 ^ 2 % 2 == 1) = true from by simpa using hm] at h
                exact h
              go_wp2_with (at_builtin; refine wpList_push _ rfl (.tmp 84) (.tmp 87) 22 rfl 5 i0 Try.underlying22 hi hz1 wq.heap.size (k + 2) (k + 4 + len3) f rfl (hrow.alloc _) (by omega) wr.heap.size 1 _ rfl (cell_fresh _ _ _) rfl ?_)
              go_roundw
              case rel => exact ⟨3, by omega, rfl, rfl, hlaid.push' _ _ ((upper_at N hN16 _).trans HE.out), below_push hbw (by omega) _ (Nat.le_refl _) _ _⟩
              case measure => simp [intOf]
            · have hm' : (a2 / 4 % 2 == 1) = false := by simp [hm]
              have HE : Hid (hexc false N = G (k + 2)) := by
                have h := HZ.out
                rw [show (a2 / 2 ^ 2 % 2 == 1) = false from by simpa using hm] at h
                exact h
              go_wp2_with (at_builtin; refine wpList_push _ rfl (.tmp 89) (.tmp 92) 22 rfl 5 i0 Try.underlying22 hi hz1 wq.heap.size (k + 2) (k + 4 + len3) f rfl (hrow.alloc _) (by omega) wr.heap.size 1 _ rfl (cell_fresh _ _ _) rfl ?_)
              go_roundw
              case rel => exact ⟨3, by omega, rfl, rfl, hlaid.push' _ _ ((lower_at N hN16 _).trans HE.out), below_push hbw (by omega) _ (Nat.le_refl _) _ _⟩
              case measure => simp [intOf]
          · have e1 : bits .and .i64 a1 15 = (N : Int) := by rw [and15 _ (by omega) (by omega), ← hN]; simp [nib]
            have e2 : bits .and .u8 (a2 / 8) 1 = a2 / 8 % 2 := and1 _ (by omega) (by omega)
            clear hN
            by_cases hm : a2 / 8 % 2 = 1
            · have hm' : (a2 / 8 % 2 == 1) = true := by simp [hm]
              have HE : Hid (hexc true N = G (k + 3)) := by
                have h := HZ.out
                rw [show (a2 / 2 ^ 3 % 2 == 1) = true from by simpa using hm] at h
                exact h
              go_wp2_with (at_builtin; refine wpList_push _ rfl (.tmp 84) (.tmp 87) 22 rfl 5 i0 Try.underlying22 hi hz1 wq.heap.size (k + 3) (k + 4 + len3) f rfl (hrow.alloc _) (by omega) wr.heap.size 1 _ rfl (cell_fresh _ _ _) rfl ?_)
              go_roundw
              case rel => exact ⟨4, by omega, rfl, rfl, hlaid.push' _ _ ((upper_at N hN16 _).trans HE.out), below_push hbw (by omega) _ (Nat.le_refl _) _ _⟩
              case measure => simp [intOf]
            · have hm' : (a2 / 8 % 2 == 1) = false := by simp [hm]
              have HE : Hid (hexc false N = G (k + 3)) := by
                have h := HZ.out
                rw [show (a2 / 2 ^ 3 % 2 == 1) = false from by simpa using hm] at h
                exact h
              go_wp2_with (at_builtin; refine wpList_push _ rfl (.tmp 89) (.tmp 92) 22 rfl 5 i0 Try.underlying22 hi hz1 wq.heap.size (k + 3) (k + 4 + len3) f rfl (hrow.alloc _) (by omega) wr.heap.size 1 _ rfl (cell_fresh _ _ _) rfl ?_)
              go_roundw
              case rel => exact ⟨4, by omega, rfl, rfl, hlaid.push' _ _ ((lower_at N hN16 _).trans HE.out), below_push hbw (by omega) _ (Nat.le_refl _) _ _⟩
              case measure => simp [intOf]
        · have hj4 : j = 4 := by omega
          subst hj4
          go_wp2
          go_loopw [11, 16] (fun s i wr => ∃ m : Nat, m ≤ len3 ∧ i = .int .i64 m ∧ s = .slice (some ⟨wq.heap.size, 0, none⟩) (k + 4 + m) (k + 4 + len3) ∧ Laid wr wq.heap.size (k + 4 + len3) (k + 4 + m) G ∧ Below wq.heap.size wq wr) (fun _ i _ => len3 - (intOf i).toNat)
          case atStart => exact ⟨0, Nat.zero_le _, rfl, rfl, hlaid, hbw⟩
          case round =>
            clear hlaid hbw hsz
            obtain ⟨m, hm, rfl, rfl, hlaid, hbw⟩ := hrel
            have hsz := hlaid.lt
            by_cases hmt : m < len3
            · have hap' := hap (by omega)
              subst hap'
              obtain ⟨zk, hzk⟩ : ∃ zk, zk = z3.getD m 0 := ⟨_, rfl⟩
              have hck : wr.cell? ⟨bp, m, none⟩ = some (.int .u8 zk) := by rw [hzk]; exact (hbw.cell (cell_lt (hdp m hmt))).trans (hdp m hmt)
              have HZ : Hid (zk = G (k + 4 + m)) := by rw [hzk, ← HG.out, framed_hi]; exact rfl
              obtain ⟨f, hrow, hf⟩ := id hlaid
              clear hzk hf hd' hdp HG HC
              go_wp2_with (at_builtin; refine wpList_push _ rfl (.tmp 100) (.tmp 105) 22 rfl 5 i0 Try.underlying22 hi hz1 wq.heap.size (k + 4 + m) (k + 4 + len3) f rfl (hrow.alloc _) (by omega) wr.heap.size 1 (.int .u8 zk) rfl (by simp) rfl ?_)
              go_roundw
              case rel => exact ⟨m + 1, by omega, by go_num, rfl, hlaid.push' _ zk HZ.out, below_push hbw (by omega) _ (Nat.le_refl _) _ _⟩
              case measure => simp [intOf]; omega
            · have hml : m = len3 := by omega
              subst hml
              have hcg : ∀ i, i < k + 4 + m → wr.cell? ⟨wq.heap.size, i, none⟩ = some (.int .u8 (G i)) := fun i hi => hlaid.cell (Nat.le_refl _) hi
              have hB2 : Below w'.heap.size w' wr := hB.trans (hbw.mono hB.size)
              have HX : Hid (∀ i, i < 4 → IsHex (G (k + i)) (nib a1 i)) := fun i hi => by
                rw [← HG.out, framed_mid _ _ _ _ _ hi, HC.out]
                exact isHex_hexc _ _ (nib_bd a1 i).1 (nib_bd a1 i).2
              clear hd' hdp hB HG HC hbw
              go_wp2_with fail
              refine (zzHex_any wq.heap.size (k + 4 + m) k G (nib a1) a4 _ (by omega) (by omega) hcg HX.out).mono ?_
              rintro e wz ⟨rfl, hbz⟩
              rw [acc_nib a1 v0 v1]
              clear hcg HX
              go_wp2
              go_ret
              exact ⟨rfl, hB2.trans (hbz.mono hB2.size)⟩

end Go.Proofs.Qxb6603076a.fnHexReadsBackWhatIsWritten
