import Derived.Test.Qxb6603076aSkipsLaw
namespace Go.Proofs.Qxb6603076a.fnNextSkipsInsertedSpace
open Go.ChangeShapes Go.WideShapes Go.ChangeAt Go.RowKit
set_option linter.unusedVariables false

set_option maxHeartbeats 4000000 in
theorem walk (a0 : Option Addr) (len0 cap0 : Nat) (z0 : List Int) (a1 : Int) (a2 : Int) (a3 : Int) (a4 : Option Addr) (len4 cap4 : Nat) (z4 : List Int) (w : World) (w0 : IsRow .u8 w a0 len0 cap0 z0) (w1 : (Lit.int .i64 a1).wf = true) (w2 : (Lit.int .i64 a2).wf = true) (w3 : (Lit.int .u8 a3).wf = true) (w4 : IsRow .u8 w a4 len4 cap4 z4) :
    Calls Try.prog 6 #[.slice a0 len0 cap0, .int .i64 a1, .int .i64 a2, .int .u8 a3, .slice a4 len4 cap4] w fun e w' => e = .returned (.bool true) ∧ Below w.heap.size w w' := by
  by_cases hlen : 1048576 < (len0 : Int) + (len4 : Int)
  · go_enter Try.func6, Try.ntmps6
    go_wp2_with fail
    refine (bytes15_no a0 len0 cap0 a1 a2 a3 a4 len4 cap4 w hlen).mono ?_
    rintro e w' ⟨rfl, rfl⟩
    go_wp2
    go_ret
    exact ⟨rfl, Below.refl _ _⟩
  have hlen' : (len0 : Int) + (len4 : Int) ≤ 1048576 := by omega
  have hl0 : (len0 : Int) ≤ 1048576 := by omega
  have hl4 : (len4 : Int) ≤ 1048576 := by omega
  have b1 : decide ((1048576 : Int) < (len0 : Int)) = false := decide_eq_false (by omega)
  have b3 : decide ((1048576 : Int) < (len4 : Int)) = false := decide_eq_false (by omega)
  have b4 : decide ((1048576 : Int) < (len0 : Int) + (len4 : Int)) = false := decide_eq_false (by omega)
  by_cases hneg : a1 < 0
  · have b2 : decide (a1 < 0) = true := decide_eq_true (by omega)
    go_enter Try.func6, Try.ntmps6
    go_wp2_with fail
    refine (bytes15_yes a0 len0 cap0 a1 a2 a3 a4 len4 cap4 w hlen').mono ?_
    rintro e w' ⟨rfl, rfl⟩
    go_wp2
    go_ret
    exact ⟨rfl, Below.refl _ _⟩
  obtain ⟨p, rfl⟩ : ∃ p : Nat, a1 = (p : Int) := ⟨a1.toNat, by omega⟩
  have b2 : decide ((p : Int) < 0) = false := decide_eq_false (by omega)
  by_cases hpn : len0 < p
  · have b5 : decide ((len0 : Int) < (p : Int)) = true := decide_eq_true (by omega)
    go_enter Try.func6, Try.ntmps6
    go_wp2_with fail
    refine (bytes15_yes a0 len0 cap0 p a2 a3 a4 len4 cap4 w hlen').mono ?_
    rintro e w' ⟨rfl, rfl⟩
    go_wp2
    go_ret
    exact ⟨rfl, Below.refl _ _⟩
  have b5 : decide ((len0 : Int) < (p : Int)) = false := decide_eq_false (by omega)
  have b5' : decide (len0 < p) = false := decide_eq_false (by omega)
  have hpn' : p ≤ len0 := by omega
  go_enter Try.func6, Try.ntmps6
  go_wp2_with fail
  refine (bytes15_yes a0 len0 cap0 p a2 a3 a4 len4 cap4 w hlen').mono ?_
  rintro e w' ⟨rfl, rfl⟩
  go_wp2_with fail
  refine (clone_any a0 len0 cap0 z0 _ w0 (by omega)).mono ?_
  rintro e wc ⟨a', bd, rfl, ha, hne, hd, hbel⟩
  go_wp2_with fail
  refine (clone_any a4 len4 cap4 z4 _ (w4.below hbel) (by omega)).mono ?_
  rintro e wq ⟨aq, bp, rfl, hap, hnep, hdp, hbelp⟩
  have hbytes := w4.byte
  have hB : Below w'.heap.size w' wq := hbel.trans (hbelp.mono hbel.size)
  have hd' : ∀ i, i < len0 → wq.cell? ⟨bd, i, none⟩ = some (.int .u8 (z0.getD i 0)) := fun i hi => (hbelp.cell (cell_lt (hd i hi))).trans (hd i hi)
  have hmk := make0 ((len0 : Int) + (len4 : Int)) (len0 + len4) (by omega) (by omega)
  obtain ⟨i0, hi, hz0, hz1, hz2⟩ := info_parts Try.info5
  clear hd hne hbelp hbel w0 w4 hnep
  generalize hG : mixed (fun i => z0.getD i 0) (fun j => spb (z4.getD j 0)) p len4 = G
  have HG : Hid (mixed (fun i => z0.getD i 0) (fun j => spb (z4.getD j 0)) p len4 = G) := hG
  clear hG
  go_wp2
  go_loopw [11, 12] (fun s i wr => ∃ k : Nat, k ≤ p ∧ i = .int .i64 k ∧ s = .slice (some ⟨wq.heap.size, 0, none⟩) k (len0 + len4) ∧ Laid wr wq.heap.size (len0 + len4) k G ∧ Below wq.heap.size wq wr) (fun _ i _ => p - (intOf i).toNat)
  case atStart => exact ⟨0, Nat.zero_le _, rfl, rfl, laid_made _ _ _, (Below.refl _ _).alloc (Nat.le_refl _) _⟩
  case round =>
    obtain ⟨k, hk, rfl, rfl, hlaid, hbw⟩ := hrel
    have hsz := hlaid.lt
    by_cases hlt : k < p
    · have hkl : k < len0 := by omega
      have ha' := ha (by omega)
      subst ha'
      obtain ⟨zk, hzk⟩ : ∃ zk, zk = z0.getD k 0 := ⟨_, rfl⟩
      have hck : wr.cell? ⟨bd, k, none⟩ = some (.int .u8 zk) := by rw [hzk]; exact (hbw.cell (cell_lt (hd' k hkl))).trans (hd' k hkl)
      have HZ : Hid (zk = G k) := by rw [hzk, ← HG.out, mixed_lo _ _ _ _ _ hlt]; exact rfl
      obtain ⟨f, hrow, hf⟩ := id hlaid
      clear hzk hf hd' hdp HG hbytes
      go_wp2_with (at_builtin; refine wpList_push _ rfl (.tmp 63) (.tmp 68) 22 rfl 5 i0 Try.underlying22 hi hz1 wq.heap.size k (len0 + len4) f rfl (hrow.alloc _) (by omega) wr.heap.size 1 (.int .u8 zk) rfl (by simp) rfl ?_)
      go_roundw
      case rel => exact ⟨k + 1, by omega, by go_num, rfl, hlaid.push' _ zk HZ.out, below_push hbw (by omega) _ (Nat.le_refl _) _ _⟩
      case measure => simp [intOf]; omega
    · have hkp : k = p := by omega
      subst hkp
      go_wp2
      go_loopw [11, 13] (fun s i wr => ∃ j : Nat, j ≤ len4 ∧ i = .int .i64 j ∧ s = .slice (some ⟨wq.heap.size, 0, none⟩) (k + j) (len0 + len4) ∧ Laid wr wq.heap.size (len0 + len4) (k + j) G ∧ Below wq.heap.size wq wr) (fun _ i _ => len4 - (intOf i).toNat)
      case atStart => exact ⟨0, Nat.zero_le _, rfl, rfl, hlaid, hbw⟩
      case round =>
        clear hlaid hbw hsz
        obtain ⟨j, hj, rfl, rfl, hlaid, hbw⟩ := hrel
        have hsz := hlaid.lt
        by_cases hjt : j < len4
        · have hap' := hap (by omega)
          subst hap'
          obtain ⟨zk, hzk⟩ : ∃ zk, zk = z4.getD j 0 := ⟨_, rfl⟩
          have hby := hbytes j
          rw [← hzk] at hby
          obtain ⟨hby0, hby1⟩ := hby
          have hck : wr.cell? ⟨bp, j, none⟩ = some (.int .u8 zk) := by rw [hzk]; exact (hbw.cell (cell_lt (hdp j hjt))).trans (hdp j hjt)
          have HZ : Hid (spb zk = G (k + j)) := by rw [hzk, ← HG.out, mixed_mid _ _ _ _ _ hjt]; exact rfl
          obtain ⟨f, hrow, hf⟩ := id hlaid
          clear hzk hf hd' hdp HG hbytes
          go_wp2_with (first | (go_at_call 16; refine (spaceByte_any _ hby0 hby1 _).mono ?_; rintro e w' ⟨rfl, rfl⟩) | (at_builtin; refine wpList_push _ rfl (.tmp 76) (.tmp 82) 22 rfl 5 i0 Try.underlying22 hi hz1 wq.heap.size (k + j) (len0 + len4) f rfl (hrow.alloc _) (by omega) w'.heap.size 1 (.int .u8 (spb zk)) rfl (by simp) rfl ?_))
          go_roundw
          case rel => exact ⟨j + 1, by omega, by go_num, by simp [Nat.add_assoc], hlaid.push' _ _ HZ.out, below_push hbw (by omega) _ (Nat.le_refl _) _ _⟩
          case measure => simp [intOf]; omega
        · have hjp : j = len4 := by omega
          subst hjp
          go_wp2
          go_loopw [11, 14] (fun s i wr => ∃ m : Nat, k ≤ m ∧ m ≤ len0 ∧ i = .int .i64 m ∧ s = .slice (some ⟨wq.heap.size, 0, none⟩) (m + j) (len0 + j) ∧ Laid wr wq.heap.size (len0 + j) (m + j) G ∧ Below wq.heap.size wq wr) (fun _ i _ => len0 - (intOf i).toNat)
          case atStart => exact ⟨k, Nat.le_refl _, hpn', rfl, rfl, hlaid, hbw⟩
          case round =>
            clear hlaid hbw hsz
            obtain ⟨m, hm1, hm2, rfl, rfl, hlaid, hbw⟩ := hrel
            have hsz := hlaid.lt
            by_cases hmt : m < len0
            · have ha' := ha (by omega)
              subst ha'
              obtain ⟨zk, hzk⟩ : ∃ zk, zk = z0.getD m 0 := ⟨_, rfl⟩
              have hck : wr.cell? ⟨bd, m, none⟩ = some (.int .u8 zk) := by rw [hzk]; exact (hbw.cell (cell_lt (hd' m hmt))).trans (hd' m hmt)
              have HZ : Hid (zk = G (m + j)) := by rw [hzk, ← HG.out, mixed_hi _ _ _ _ _ hm1]; exact rfl
              obtain ⟨f, hrow, hf⟩ := id hlaid
              clear hzk hf hd' hdp HG hbytes
              go_wp2_with (at_builtin; refine wpList_push _ rfl (.tmp 91) (.tmp 96) 22 rfl 5 i0 Try.underlying22 hi hz1 wq.heap.size (m + j) (len0 + j) f rfl (hrow.alloc _) (by omega) wr.heap.size 1 (.int .u8 zk) rfl (by simp) rfl ?_)
              go_roundw
              case rel => exact ⟨m + 1, by omega, by omega, by go_num, by simp; omega, (by have := hlaid.push' (.cells #[.int .u8 zk] 5) _ HZ.out; rw [show m + 1 + j = m + j + 1 from by omega]; exact this), below_push hbw (by omega) _ (Nat.le_refl _) _ _⟩
              case measure => simp [intOf]; omega
            · have hml : m = len0 := by omega
              subst hml
              have hcd : ∀ i, i < m → wr.cell? ⟨bd, i, none⟩ = some (.int .u8 (z0.getD i 0)) := fun i hi => (hbw.cell (cell_lt (hd' i hi))).trans (hd' i hi)
              have hB2 : Below w'.heap.size w' wr := hB.trans (hbw.mono hB.size)
              have HSP : Hid (∀ i, i < j → isSp (spb (z4.getD i 0)) = true) := fun i _ => isSp_spb _
              clear hd' hdp hbytes hB
              go_wp2_with fail
              refine (zzNext_c bd m k a' (fun i => z0.getD i 0) a2 a3 _ (by omega) ha hcd).mono ?_
              rintro e wz ⟨q, hsk, hbz, hsz2, hres⟩
              have hcg : ∀ i, i < m + j → wz.cell? ⟨wq.heap.size, i, none⟩ = some (.int .u8 (G i)) := fun i hi => (hbz.cell (by exact hsz)).trans (hlaid.cell (Nat.le_refl _) hi)
              have hB3 : Below w'.heap.size w' wz := hB2.trans (hbz.mono hB2.size)
              clear hcd hB2 hlaid hbw hbz hsz2 ha
              have HR : Hid ((q < m ∧ z0.getD q 0 = a3 ∧ e = .returned (.tuple #[.bool true, .int .i64 ((q + 1 : Nat) : Int), .int .i64 a2])) ∨ (¬ (q < m ∧ z0.getD q 0 = a3) ∧ e = .returned (.tuple #[.bool false, .int .i64 (q : Nat), .int .i64 a2]))) := hres
              clear hres
              have hsk2 := hsk.mixed hpn' HSP.out
              rw [HG.out] at hsk2
              have HQ : Hid (G (q + j) = z0.getD q 0) := by rw [← HG.out, mixed_hi _ _ _ _ _ hsk.le]; exact rfl
              clear HG HSP
              have hqm : q ≤ m := hsk.inn hpn'
              rcases HR.out with ⟨r1, r2, rfl⟩ | ⟨r1, rfl⟩
              · clear HR
                have R2 : Hid (z0.getD q 0 = a3) := r2
                clear r2
                go_wp2_with fail
                refine (zzNext_c wq.heap.size (m + j) k _ G a2 a3 _ (by omega) (fun _ => rfl) hcg).mono ?_
                rintro e wy ⟨q2, hq2, hby, hsy, hres2⟩
                have e2 := hq2.uniq hsk2
                subst e2
                rcases hres2 with ⟨_, _, rfl⟩ | ⟨s1, rfl⟩
                · go_wp2
                  go_ret
                  exact ⟨rfl, hB3.trans (hby.mono hB3.size)⟩
                · exact absurd ⟨by omega, HQ.out.trans R2.out⟩ s1
              · clear HR
                have R1 : Hid (¬ (q < m ∧ z0.getD q 0 = a3)) := r1
                clear r1
                go_wp2_with fail
                refine (zzNext_c wq.heap.size (m + j) k _ G a2 a3 _ (by omega) (fun _ => rfl) hcg).mono ?_
                rintro e wy ⟨q2, hq2, hby, hsy, hres2⟩
                have e2 := hq2.uniq hsk2
                subst e2
                rcases hres2 with ⟨s1, s2, rfl⟩ | ⟨s1, rfl⟩
                · exact absurd ⟨by omega, HQ.out.symm.trans s2⟩ R1.out
                · clear s1
                  go_wp2
                  go_ret
                  exact ⟨rfl, hB3.trans (hby.mono hB3.size)⟩

end Go.Proofs.Qxb6603076a.fnNextSkipsInsertedSpace
