/- The walk of FnStartsWithWildcardAt on its long way, in two ways (b nil or not). -/
import Derived.Test.Qxb6618057aWild
import Derived.Deep.QuietTactic
import Derived.BigQuiet
namespace Go.Proofs.Qxb6618057a
open Go.ChangeShapes Go.WideShapes Go.ChangeAt Go.RowKit

set_option maxHeartbeats 2000000 in
theorem wildcard_s (x y : Addr) (n0 c0 n1 c1 : Nat) (i : Nat) (fb fo : Nat → Int) (w : World) (h1 : n0 + 8 * n1 ≤ 1048576) (hi : i < n1)
    (hx : ∀ i, i < n0 → w.cell? (x.add i) = some (.int .u8 (fb i))) (hy : ∀ i, i < n1 → w.cell? (y.add i) = some (.int .i64 (fo i)))
    (hr : ∀ i, i < n0 → 0 ≤ fb i ∧ fb i ≤ 255) :
    Calls Try.prog 4 #[.slice (some x) n0 c0, .slice (some y) n1 c1, .int .i64 i] w fun e w' => e = .returned (.bool true) ∧ Below w.heap.size w w' := by
  obtain ⟨w2, hcp1, hrow1, hbel1⟩ := copy_made 22 5 .u8 Try.underlying22 Try.one5 w x n0 c0 fb hx
  have hy2 : ∀ i, i < n1 → w2.cell? (y.add i) = some (.int .i64 (fo i)) := fun i hi => (hbel1.cell (World.block_lt_of_cell? w _ (hy i hi))).trans (hy i hi)
  obtain ⟨w3, hcp2, hrow2, hbel2⟩ := copy_made 23 3 .i64 Try.underlying23 Try.one3 w2 y n1 c1 fo hy2
  have PB := hidden (hrow1.of_block (hbel2.block _ hrow1.lt))
  have RB := hidden (Row.of_row PB.out)
  have BL := hidden (hbel1.trans (hbel2.mono hbel1.size))
  have PO := hidden hrow2
  have RO := hidden (Row.of_row hrow2)
  have HR := hidden hr
  clear hx hy hr hrow2 hbel2 hrow1 hbel1 hy2
  have hmk5 := run_make_row' (P := Try.prog) 22 5 (.int .u8 0) 1 Try.underlying22 Try.info5 rfl .i64 .i64 n0 (by omega) (by omega)
  have hmk3 := run_make_row' (P := Try.prog) 23 3 (.int .i64 0) 8 Try.underlying23 Try.info3 rfl .i64 .i64 n1 (by omega) (by omega)
  have hn22 := fun wx => run_neq_slice_nil_any (P := Try.prog) wx 22 5 (some x) n0 c0 0 0 Try.underlying22
  have hn23 := fun wx => run_neq_slice_nil_any (P := Try.prog) wx 23 3 (some y) n1 c1 0 0 Try.underlying23
  go_enter Try.func4, Try.ntmps4
  go_wp2_with (go_at_call 11; go_in)
  clear hn22 hn23 hcp2 hmk5 hcp1
  refine (zzstarts_any _ _ _ _ _ _ fb fo _ RB.out RO.out (by omega) HR.out).mono ?_
  rintro e w' ⟨rfl, rfl⟩
  go_wp2_with fail
  go_loopw [11] (fun v wr => ∃ k : Nat, k ≤ n1 ∧ v = .int .i64 k ∧ wr.rowIs w'.heap.size 3 n1 (part fo k) ∧ Below w'.heap.size w' wr) (fun v _ => n1 - (intOf v).toNat)
  case atStart => exact ⟨0, Nat.zero_le _, rfl, (World.rowIs_made w' (.int .i64 0) n1 3).congr fun i _ => (part_zero _ i).symm, (Below.refl _ _).alloc (Nat.le_refl _) _⟩
  case round =>
    obtain ⟨k, hk, rfl, hrow, hbel⟩ := hrel
    by_cases hlt : k < n1
    · have hco := (row_on PO.out hbel).cell hlt
      have hcw := hrow.cell hlt
      have hfr := hrow.frozen k
      have R := hidden hrow
      have BW := hidden hbel
      clear hrow hbel
      go_wp2_with fail
      go_roundw
      case rel => exact ⟨k + 1, by omega, by go_num, part_put R.out rfl, BW.out.setCell (Nat.le_refl _) _⟩
      case measure => simp [intOf]; omega
    · have hrowA := hrow.congr (fun i hi => part_all fo k i (by omega))
      have hcw := hrow.cell hi
      have hfr := hrow.frozen i
      have RW := hidden (row_put (i := i) (-1) hrowA)
      have BW := hidden (hbel.setCell (p := ⟨w'.heap.size, i, none⟩) (Nat.le_refl _) (.int .i64 (-1)))
      clear hrow hbel hrowA
      by_cases hin : i ≤ n0
      · have HC := hidden (sw_wild n0 n1 i fb fo hi hin)
        go_wp2_with fail
        generalize wr.setCell ⟨w'.heap.size, i, none⟩ (.int .i64 (-1)) = w5 at RW BW ⊢
        clear hcw hfr
        go_quiet ((go_at_call 9; exact Calls.quiet_of_same (zzstarts_any _ _ _ _ _ _ (fun k => fb (i + k)) (fun k => fo (i + k)) _ (((RB.out.cut_new i).below BW.out).drewN _) (((RO.out.one i hi).below BW.out).drewN _) (by omega) (fun k hk => HR.out (i + k) (by omega)))))
        generalize (if n0 = i then (some ⟨w.heap.size, 0, none⟩ : Option Addr) else some ⟨w.heap.size, i, none⟩) = A0
        have RW6 : Hid ((w5.drewN nq).rowIs w'.heap.size 3 n1 (fun k => .int .i64 (putAt fo i (-1) k))) := RW.out
        have BW6 : Hid (Below w'.heap.size w' (w5.drewN nq)) := below_drewN BW.out nq
        clear RW BW
        generalize w5.drewN nq = w6 at RW6 BW6 ⊢
        have RW := RW6
        have BW := BW6
        clear RW6 BW6
        rcases Bool.eq_false_or_eq_true (sw n0 n1 fb (putAt fo i (-1))) with hL | hL
        · rcases Bool.eq_false_or_eq_true (sw (n0 - i) 1 (fun k => fb (i + k)) (fun k => fo (i + k))) with hR | hR
          · go_wp2_with fail
            refine (zzstarts_any _ _ _ _ _ _ fb (putAt fo i (-1)) _ (RB.out.below BW.out) (Row.of_row RW.out) (by omega) HR.out).mono ?_
            rintro e w7 ⟨rfl, rfl⟩
            clear RW
            have hW : sw n0 n1 fb fo = true := by rw [HC.out, hL, hR]; rfl
            go_wp2_with fail
            go_loopw [14] (fun v wr => ∃ k : Nat, k ≤ n1 ∧ v = .int .i64 k ∧ wr.rowIs w7.heap.size 3 n1 (part (fun _ => -1) k) ∧ Below w7.heap.size w7 wr) (fun v _ => n1 - (intOf v).toNat)
            case atStart => exact ⟨0, Nat.zero_le _, rfl, (World.rowIs_made w7 (.int .i64 0) n1 3).congr fun i _ => (part_zero _ i).symm, (Below.refl _ _).alloc (Nat.le_refl _) _⟩
            case round =>
              obtain ⟨k2, hk2, rfl, hrow, hbel⟩ := hrel
              by_cases hlt2 : k2 < n1
              · have hcw2 := hrow.cell hlt2
                have hfr2 := hrow.frozen k2
                have R := hidden hrow
                have BA := hidden hbel
                clear hrow hbel
                go_wp2_with fail
                go_roundw
                case rel => exact ⟨k2 + 1, by omega, by go_num, part_put R.out rfl, BA.out.setCell (Nat.le_refl _) _⟩
                case measure => simp [intOf]; omega
              · have RA := hidden (hrow.congr (fun i hi => part_all (fun _ => -1) k2 i (by omega)))
                have BA := hidden hbel
                clear hrow hbel
                go_wp2_with fail
                refine (zzstarts_any _ _ _ _ _ _ fb (fun _ => -1) _ (RB.out.below (BW.out.trans (BA.out.mono BW.out.size))) (Row.of_row RA.out) (by omega) HR.out).mono ?_
                rintro e w8 ⟨rfl, rfl⟩
                clear RA
                have hall : sw n0 n1 fb (fun _ => -1) = decide (n1 ≤ n0) := sw_all n0 n1 fb
                by_cases hib : i < n0
                · go_wp2_with fail
                  refine (fill_any _ _ _ _ _ _ fb fo _ (RB.out.below (BW.out.trans (BA.out.mono BW.out.size))) (RO.out.below (BW.out.trans (BA.out.mono BW.out.size))) (by omega) HR.out).mono ?_
                  rintro e w9 ⟨rfl, hrow9, hbel9⟩
                  have BZ := hidden ((BW.out.trans (BA.out.mono BW.out.size)).trans (hbel9.mono (BW.out.trans (BA.out.mono BW.out.size)).size))
                  have hcb := (row_on PB.out BZ.out).cell hib
                  have hbd := HR.out i hib
                  have hc9 := hrow9.cell hi
                  have hf9 := hrow9.frozen i
                  have R9 := hidden (row_put (i := i) (bits .and .i64 (fb i + 1) 255) hrow9)
                  have B9 := hidden (BZ.out.setCell (p := ⟨w8.heap.size, i, none⟩) (by show _ ≤ w8.heap.size; exact (BW.out.trans (BA.out.mono BW.out.size)).size) (.int .i64 (bits .and .i64 (fb i + 1) 255)))
                  clear hrow9 hbel9
                  go_wp2_with fail
                  refine (zzstarts_any _ _ _ _ _ _ fb (putAt (fill n0 fb fo) i (bits .and .i64 (fb i + 1) 255)) _ (RB.out.below B9.out) (Row.of_row R9.out) (by omega) HR.out).mono ?_
                  rintro e w10 ⟨rfl, hw10⟩
                  have hbk : sw n0 n1 fb (putAt (fill n0 fb fo) i (bits .and .i64 (fb i + 1) 255)) = false := sw_broken hi
                  subst hw10
                  go_wp2
                  go_ret
                  exact ⟨rfl, BL.out.trans (B9.out.mono BL.out.size)⟩
                · go_wp2
                  go_ret
                  exact ⟨rfl, BL.out.trans ((BW.out.trans (BA.out.mono BW.out.size)).mono BL.out.size)⟩
          · go_wp2_with fail
            refine (zzstarts_any _ _ _ _ _ _ fb (putAt fo i (-1)) _ (RB.out.below BW.out) (Row.of_row RW.out) (by omega) HR.out).mono ?_
            rintro e w7 ⟨rfl, rfl⟩
            clear RW
            have hW : sw n0 n1 fb fo = false := by rw [HC.out, hL, hR]; rfl
            go_wp2_with fail
            go_loopw [14] (fun v wr => ∃ k : Nat, k ≤ n1 ∧ v = .int .i64 k ∧ wr.rowIs w7.heap.size 3 n1 (part (fun _ => -1) k) ∧ Below w7.heap.size w7 wr) (fun v _ => n1 - (intOf v).toNat)
            case atStart => exact ⟨0, Nat.zero_le _, rfl, (World.rowIs_made w7 (.int .i64 0) n1 3).congr fun i _ => (part_zero _ i).symm, (Below.refl _ _).alloc (Nat.le_refl _) _⟩
            case round =>
              obtain ⟨k2, hk2, rfl, hrow, hbel⟩ := hrel
              by_cases hlt2 : k2 < n1
              · have hcw2 := hrow.cell hlt2
                have hfr2 := hrow.frozen k2
                have R := hidden hrow
                have BA := hidden hbel
                clear hrow hbel
                go_wp2_with fail
                go_roundw
                case rel => exact ⟨k2 + 1, by omega, by go_num, part_put R.out rfl, BA.out.setCell (Nat.le_refl _) _⟩
                case measure => simp [intOf]; omega
              · have RA := hidden (hrow.congr (fun i hi => part_all (fun _ => -1) k2 i (by omega)))
                have BA := hidden hbel
                clear hrow hbel
                go_wp2_with fail
                refine (zzstarts_any _ _ _ _ _ _ fb (fun _ => -1) _ (RB.out.below (BW.out.trans (BA.out.mono BW.out.size))) (Row.of_row RA.out) (by omega) HR.out).mono ?_
                rintro e w8 ⟨rfl, rfl⟩
                clear RA
                have hall : sw n0 n1 fb (fun _ => -1) = decide (n1 ≤ n0) := sw_all n0 n1 fb
                by_cases hib : i < n0
                · go_wp2_with fail
                  refine (fill_any _ _ _ _ _ _ fb fo _ (RB.out.below (BW.out.trans (BA.out.mono BW.out.size))) (RO.out.below (BW.out.trans (BA.out.mono BW.out.size))) (by omega) HR.out).mono ?_
                  rintro e w9 ⟨rfl, hrow9, hbel9⟩
                  have BZ := hidden ((BW.out.trans (BA.out.mono BW.out.size)).trans (hbel9.mono (BW.out.trans (BA.out.mono BW.out.size)).size))
                  have hcb := (row_on PB.out BZ.out).cell hib
                  have hbd := HR.out i hib
                  have hc9 := hrow9.cell hi
                  have hf9 := hrow9.frozen i
                  have R9 := hidden (row_put (i := i) (bits .and .i64 (fb i + 1) 255) hrow9)
                  have B9 := hidden (BZ.out.setCell (p := ⟨w8.heap.size, i, none⟩) (by show _ ≤ w8.heap.size; exact (BW.out.trans (BA.out.mono BW.out.size)).size) (.int .i64 (bits .and .i64 (fb i + 1) 255)))
                  clear hrow9 hbel9
                  go_wp2_with fail
                  refine (zzstarts_any _ _ _ _ _ _ fb (putAt (fill n0 fb fo) i (bits .and .i64 (fb i + 1) 255)) _ (RB.out.below B9.out) (Row.of_row R9.out) (by omega) HR.out).mono ?_
                  rintro e w10 ⟨rfl, hw10⟩
                  have hbk : sw n0 n1 fb (putAt (fill n0 fb fo) i (bits .and .i64 (fb i + 1) 255)) = false := sw_broken hi
                  subst hw10
                  go_wp2
                  go_ret
                  exact ⟨rfl, BL.out.trans (B9.out.mono BL.out.size)⟩
                · go_wp2
                  go_ret
                  exact ⟨rfl, BL.out.trans ((BW.out.trans (BA.out.mono BW.out.size)).mono BL.out.size)⟩
        · rcases Bool.eq_false_or_eq_true (sw (n0 - i) 1 (fun k => fb (i + k)) (fun k => fo (i + k))) with hR | hR
          · go_wp2_with fail
            refine (zzstarts_any _ _ _ _ _ _ fb (putAt fo i (-1)) _ (RB.out.below BW.out) (Row.of_row RW.out) (by omega) HR.out).mono ?_
            rintro e w7 ⟨rfl, rfl⟩
            clear RW
            have hW : sw n0 n1 fb fo = false := by rw [HC.out, hL, hR]; rfl
            go_wp2_with fail
            go_loopw [14] (fun v wr => ∃ k : Nat, k ≤ n1 ∧ v = .int .i64 k ∧ wr.rowIs w7.heap.size 3 n1 (part (fun _ => -1) k) ∧ Below w7.heap.size w7 wr) (fun v _ => n1 - (intOf v).toNat)
            case atStart => exact ⟨0, Nat.zero_le _, rfl, (World.rowIs_made w7 (.int .i64 0) n1 3).congr fun i _ => (part_zero _ i).symm, (Below.refl _ _).alloc (Nat.le_refl _) _⟩
            case round =>
              obtain ⟨k2, hk2, rfl, hrow, hbel⟩ := hrel
              by_cases hlt2 : k2 < n1
              · have hcw2 := hrow.cell hlt2
                have hfr2 := hrow.frozen k2
                have R := hidden hrow
                have BA := hidden hbel
                clear hrow hbel
                go_wp2_with fail
                go_roundw
                case rel => exact ⟨k2 + 1, by omega, by go_num, part_put R.out rfl, BA.out.setCell (Nat.le_refl _) _⟩
                case measure => simp [intOf]; omega
              · have RA := hidden (hrow.congr (fun i hi => part_all (fun _ => -1) k2 i (by omega)))
                have BA := hidden hbel
                clear hrow hbel
                go_wp2_with fail
                refine (zzstarts_any _ _ _ _ _ _ fb (fun _ => -1) _ (RB.out.below (BW.out.trans (BA.out.mono BW.out.size))) (Row.of_row RA.out) (by omega) HR.out).mono ?_
                rintro e w8 ⟨rfl, rfl⟩
                clear RA
                have hall : sw n0 n1 fb (fun _ => -1) = decide (n1 ≤ n0) := sw_all n0 n1 fb
                by_cases hib : i < n0
                · go_wp2_with fail
                  refine (fill_any _ _ _ _ _ _ fb fo _ (RB.out.below (BW.out.trans (BA.out.mono BW.out.size))) (RO.out.below (BW.out.trans (BA.out.mono BW.out.size))) (by omega) HR.out).mono ?_
                  rintro e w9 ⟨rfl, hrow9, hbel9⟩
                  have BZ := hidden ((BW.out.trans (BA.out.mono BW.out.size)).trans (hbel9.mono (BW.out.trans (BA.out.mono BW.out.size)).size))
                  have hcb := (row_on PB.out BZ.out).cell hib
                  have hbd := HR.out i hib
                  have hc9 := hrow9.cell hi
                  have hf9 := hrow9.frozen i
                  have R9 := hidden (row_put (i := i) (bits .and .i64 (fb i + 1) 255) hrow9)
                  have B9 := hidden (BZ.out.setCell (p := ⟨w8.heap.size, i, none⟩) (by show _ ≤ w8.heap.size; exact (BW.out.trans (BA.out.mono BW.out.size)).size) (.int .i64 (bits .and .i64 (fb i + 1) 255)))
                  clear hrow9 hbel9
                  go_wp2_with fail
                  refine (zzstarts_any _ _ _ _ _ _ fb (putAt (fill n0 fb fo) i (bits .and .i64 (fb i + 1) 255)) _ (RB.out.below B9.out) (Row.of_row R9.out) (by omega) HR.out).mono ?_
                  rintro e w10 ⟨rfl, hw10⟩
                  have hbk : sw n0 n1 fb (putAt (fill n0 fb fo) i (bits .and .i64 (fb i + 1) 255)) = false := sw_broken hi
                  subst hw10
                  go_wp2
                  go_ret
                  exact ⟨rfl, BL.out.trans (B9.out.mono BL.out.size)⟩
                · go_wp2
                  go_ret
                  exact ⟨rfl, BL.out.trans ((BW.out.trans (BA.out.mono BW.out.size)).mono BL.out.size)⟩
          · go_wp2_with fail
            refine (zzstarts_any _ _ _ _ _ _ fb (putAt fo i (-1)) _ (RB.out.below BW.out) (Row.of_row RW.out) (by omega) HR.out).mono ?_
            rintro e w7 ⟨rfl, rfl⟩
            clear RW
            have hW : sw n0 n1 fb fo = false := by rw [HC.out, hL, hR]; rfl
            go_wp2_with fail
            go_loopw [14] (fun v wr => ∃ k : Nat, k ≤ n1 ∧ v = .int .i64 k ∧ wr.rowIs w7.heap.size 3 n1 (part (fun _ => -1) k) ∧ Below w7.heap.size w7 wr) (fun v _ => n1 - (intOf v).toNat)
            case atStart => exact ⟨0, Nat.zero_le _, rfl, (World.rowIs_made w7 (.int .i64 0) n1 3).congr fun i _ => (part_zero _ i).symm, (Below.refl _ _).alloc (Nat.le_refl _) _⟩
            case round =>
              obtain ⟨k2, hk2, rfl, hrow, hbel⟩ := hrel
              by_cases hlt2 : k2 < n1
              · have hcw2 := hrow.cell hlt2
                have hfr2 := hrow.frozen k2
                have R := hidden hrow
                have BA := hidden hbel
                clear hrow hbel
                go_wp2_with fail
                go_roundw
                case rel => exact ⟨k2 + 1, by omega, by go_num, part_put R.out rfl, BA.out.setCell (Nat.le_refl _) _⟩
                case measure => simp [intOf]; omega
              · have RA := hidden (hrow.congr (fun i hi => part_all (fun _ => -1) k2 i (by omega)))
                have BA := hidden hbel
                clear hrow hbel
                go_wp2_with fail
                refine (zzstarts_any _ _ _ _ _ _ fb (fun _ => -1) _ (RB.out.below (BW.out.trans (BA.out.mono BW.out.size))) (Row.of_row RA.out) (by omega) HR.out).mono ?_
                rintro e w8 ⟨rfl, rfl⟩
                clear RA
                have hall : sw n0 n1 fb (fun _ => -1) = decide (n1 ≤ n0) := sw_all n0 n1 fb
                by_cases hib : i < n0
                · go_wp2_with fail
                  refine (fill_any _ _ _ _ _ _ fb fo _ (RB.out.below (BW.out.trans (BA.out.mono BW.out.size))) (RO.out.below (BW.out.trans (BA.out.mono BW.out.size))) (by omega) HR.out).mono ?_
                  rintro e w9 ⟨rfl, hrow9, hbel9⟩
                  have BZ := hidden ((BW.out.trans (BA.out.mono BW.out.size)).trans (hbel9.mono (BW.out.trans (BA.out.mono BW.out.size)).size))
                  have hcb := (row_on PB.out BZ.out).cell hib
                  have hbd := HR.out i hib
                  have hc9 := hrow9.cell hi
                  have hf9 := hrow9.frozen i
                  have R9 := hidden (row_put (i := i) (bits .and .i64 (fb i + 1) 255) hrow9)
                  have B9 := hidden (BZ.out.setCell (p := ⟨w8.heap.size, i, none⟩) (by show _ ≤ w8.heap.size; exact (BW.out.trans (BA.out.mono BW.out.size)).size) (.int .i64 (bits .and .i64 (fb i + 1) 255)))
                  clear hrow9 hbel9
                  go_wp2_with fail
                  refine (zzstarts_any _ _ _ _ _ _ fb (putAt (fill n0 fb fo) i (bits .and .i64 (fb i + 1) 255)) _ (RB.out.below B9.out) (Row.of_row R9.out) (by omega) HR.out).mono ?_
                  rintro e w10 ⟨rfl, hw10⟩
                  have hbk : sw n0 n1 fb (putAt (fill n0 fb fo) i (bits .and .i64 (fb i + 1) 255)) = false := sw_broken hi
                  subst hw10
                  go_wp2
                  go_ret
                  exact ⟨rfl, BL.out.trans (B9.out.mono BL.out.size)⟩
                · go_wp2
                  go_ret
                  exact ⟨rfl, BL.out.trans ((BW.out.trans (BA.out.mono BW.out.size)).mono BL.out.size)⟩
      · have hL : sw n0 n1 fb (putAt fo i (-1)) = false := sw_short (by omega)
        go_wp2_with fail
        generalize wr.setCell ⟨w'.heap.size, i, none⟩ (.int .i64 (-1)) = w5 at RW BW ⊢
        clear hcw hfr
        refine (zzstarts_any _ _ _ _ _ _ fb (putAt fo i (-1)) _ (RB.out.below BW.out) (Row.of_row RW.out) (by omega) HR.out).mono ?_
        rintro e w7 ⟨rfl, rfl⟩
        clear RW
        have hW : sw n0 n1 fb fo = false := sw_short (by omega)
        go_wp2_with fail
        go_loopw [14] (fun v wr => ∃ k : Nat, k ≤ n1 ∧ v = .int .i64 k ∧ wr.rowIs w7.heap.size 3 n1 (part (fun _ => -1) k) ∧ Below w7.heap.size w7 wr) (fun v _ => n1 - (intOf v).toNat)
        case atStart => exact ⟨0, Nat.zero_le _, rfl, (World.rowIs_made w7 (.int .i64 0) n1 3).congr fun i _ => (part_zero _ i).symm, (Below.refl _ _).alloc (Nat.le_refl _) _⟩
        case round =>
          obtain ⟨k2, hk2, rfl, hrow, hbel⟩ := hrel
          by_cases hlt2 : k2 < n1
          · have hcw2 := hrow.cell hlt2
            have hfr2 := hrow.frozen k2
            have R := hidden hrow
            have BA := hidden hbel
            clear hrow hbel
            go_wp2_with fail
            go_roundw
            case rel => exact ⟨k2 + 1, by omega, by go_num, part_put R.out rfl, BA.out.setCell (Nat.le_refl _) _⟩
            case measure => simp [intOf]; omega
          · have RA := hidden (hrow.congr (fun i hi => part_all (fun _ => -1) k2 i (by omega)))
            have BA := hidden hbel
            clear hrow hbel
            go_wp2_with fail
            refine (zzstarts_any _ _ _ _ _ _ fb (fun _ => -1) _ (RB.out.below (BW.out.trans (BA.out.mono BW.out.size))) (Row.of_row RA.out) (by omega) HR.out).mono ?_
            rintro e w8 ⟨rfl, rfl⟩
            clear RA
            have hall : sw n0 n1 fb (fun _ => -1) = false := sw_short (by omega)
            go_wp2
            go_ret
            exact ⟨rfl, BL.out.trans ((BW.out.trans (BA.out.mono BW.out.size)).mono BL.out.size)⟩

set_option maxHeartbeats 2000000 in
theorem wildcard_n (y : Addr) (n0 c0 n1 c1 : Nat) (i : Nat) (fb fo : Nat → Int) (w : World) (h1 : n0 + 8 * n1 ≤ 1048576) (hi : i < n1)
    (hx : n0 = 0) (hy : ∀ i, i < n1 → w.cell? (y.add i) = some (.int .i64 (fo i)))
    (hr : ∀ i, i < n0 → 0 ≤ fb i ∧ fb i ≤ 255) :
    Calls Try.prog 4 #[.slice none n0 c0, .slice (some y) n1 c1, .int .i64 i] w fun e w' => e = .returned (.bool true) ∧ Below w.heap.size w w' := by
  obtain ⟨w3, hcp2, hrow2, hbel2⟩ := copy_made 23 3 .i64 Try.underlying23 Try.one3 w y n1 c1 fo hy
  have RB : Hid (Row .u8 w3 none n0 fb) := hidden (.inl hx)
  have BL := hidden hbel2
  have HX := hidden hx
  have PO := hidden hrow2
  have RO := hidden (Row.of_row hrow2)
  have HR := hidden hr
  clear hx hy hr hrow2 hbel2
  have hmk3 := run_make_row' (P := Try.prog) 23 3 (.int .i64 0) 8 Try.underlying23 Try.info3 rfl .i64 .i64 n1 (by omega) (by omega)
  have hn22 := fun wx => run_neq_slice_nil_any (P := Try.prog) wx 22 5 none n0 c0 0 0 Try.underlying22
  have hn23 := fun wx => run_neq_slice_nil_any (P := Try.prog) wx 23 3 (some y) n1 c1 0 0 Try.underlying23
  go_enter Try.func4, Try.ntmps4
  go_wp2_with (go_at_call 11; go_in)
  clear hn22 hn23 hcp2
  refine (zzstarts_any _ _ _ _ _ _ fb fo _ RB.out RO.out (by omega) HR.out).mono ?_
  rintro e w' ⟨rfl, rfl⟩
  go_wp2_with fail
  go_loopw [11] (fun v wr => ∃ k : Nat, k ≤ n1 ∧ v = .int .i64 k ∧ wr.rowIs w'.heap.size 3 n1 (part fo k) ∧ Below w'.heap.size w' wr) (fun v _ => n1 - (intOf v).toNat)
  case atStart => exact ⟨0, Nat.zero_le _, rfl, (World.rowIs_made w' (.int .i64 0) n1 3).congr fun i _ => (part_zero _ i).symm, (Below.refl _ _).alloc (Nat.le_refl _) _⟩
  case round =>
    obtain ⟨k, hk, rfl, hrow, hbel⟩ := hrel
    by_cases hlt : k < n1
    · have hco := (row_on PO.out hbel).cell hlt
      have hcw := hrow.cell hlt
      have hfr := hrow.frozen k
      have R := hidden hrow
      have BW := hidden hbel
      clear hrow hbel
      go_wp2_with fail
      go_roundw
      case rel => exact ⟨k + 1, by omega, by go_num, part_put R.out rfl, BW.out.setCell (Nat.le_refl _) _⟩
      case measure => simp [intOf]; omega
    · have hrowA := hrow.congr (fun i hi => part_all fo k i (by omega))
      have hcw := hrow.cell hi
      have hfr := hrow.frozen i
      have RW := hidden (row_put (i := i) (-1) hrowA)
      have BW := hidden (hbel.setCell (p := ⟨w'.heap.size, i, none⟩) (Nat.le_refl _) (.int .i64 (-1)))
      clear hrow hbel hrowA
      by_cases hin : i ≤ n0
      · have HC := hidden (sw_wild n0 n1 i fb fo hi hin)
        go_wp2_with fail
        generalize wr.setCell ⟨w'.heap.size, i, none⟩ (.int .i64 (-1)) = w5 at RW BW ⊢
        clear hcw hfr
        go_quiet ((go_at_call 9; exact Calls.quiet_of_same (zzstarts_any _ _ _ _ _ _ (fun k => fb (i + k)) (fun k => fo (i + k)) _ (((RB.out.cut_nil i).below BW.out).drewN _) (((RO.out.one i hi).below BW.out).drewN _) (by omega) (fun k hk => HR.out (i + k) (by omega)))))
        have RW6 : Hid ((w5.drewN nq).rowIs w'.heap.size 3 n1 (fun k => .int .i64 (putAt fo i (-1) k))) := RW.out
        have BW6 : Hid (Below w'.heap.size w' (w5.drewN nq)) := below_drewN BW.out nq
        clear RW BW
        generalize w5.drewN nq = w6 at RW6 BW6 ⊢
        have RW := RW6
        have BW := BW6
        clear RW6 BW6
        rcases Bool.eq_false_or_eq_true (sw n0 n1 fb (putAt fo i (-1))) with hL | hL
        · rcases Bool.eq_false_or_eq_true (sw (n0 - i) 1 (fun k => fb (i + k)) (fun k => fo (i + k))) with hR | hR
          · go_wp2_with fail
            refine (zzstarts_any _ _ _ _ _ _ fb (putAt fo i (-1)) _ (RB.out.below BW.out) (Row.of_row RW.out) (by omega) HR.out).mono ?_
            rintro e w7 ⟨rfl, rfl⟩
            clear RW
            have hW : sw n0 n1 fb fo = true := by rw [HC.out, hL, hR]; rfl
            go_wp2_with fail
            go_loopw [14] (fun v wr => ∃ k : Nat, k ≤ n1 ∧ v = .int .i64 k ∧ wr.rowIs w7.heap.size 3 n1 (part (fun _ => -1) k) ∧ Below w7.heap.size w7 wr) (fun v _ => n1 - (intOf v).toNat)
            case atStart => exact ⟨0, Nat.zero_le _, rfl, (World.rowIs_made w7 (.int .i64 0) n1 3).congr fun i _ => (part_zero _ i).symm, (Below.refl _ _).alloc (Nat.le_refl _) _⟩
            case round =>
              obtain ⟨k2, hk2, rfl, hrow, hbel⟩ := hrel
              by_cases hlt2 : k2 < n1
              · have hcw2 := hrow.cell hlt2
                have hfr2 := hrow.frozen k2
                have R := hidden hrow
                have BA := hidden hbel
                clear hrow hbel
                go_wp2_with fail
                go_roundw
                case rel => exact ⟨k2 + 1, by omega, by go_num, part_put R.out rfl, BA.out.setCell (Nat.le_refl _) _⟩
                case measure => simp [intOf]; omega
              · have RA := hidden (hrow.congr (fun i hi => part_all (fun _ => -1) k2 i (by omega)))
                have BA := hidden hbel
                clear hrow hbel
                go_wp2_with fail
                refine (zzstarts_any _ _ _ _ _ _ fb (fun _ => -1) _ (RB.out.below (BW.out.trans (BA.out.mono BW.out.size))) (Row.of_row RA.out) (by omega) HR.out).mono ?_
                rintro e w8 ⟨rfl, rfl⟩
                clear RA
                have hall : sw n0 n1 fb (fun _ => -1) = decide (n1 ≤ n0) := sw_all n0 n1 fb
                have hib : ¬ i < n0 := by have := HX.out; omega
                go_wp2
                go_ret
                exact ⟨rfl, BL.out.trans ((BW.out.trans (BA.out.mono BW.out.size)).mono BL.out.size)⟩
          · go_wp2_with fail
            refine (zzstarts_any _ _ _ _ _ _ fb (putAt fo i (-1)) _ (RB.out.below BW.out) (Row.of_row RW.out) (by omega) HR.out).mono ?_
            rintro e w7 ⟨rfl, rfl⟩
            clear RW
            have hW : sw n0 n1 fb fo = false := by rw [HC.out, hL, hR]; rfl
            go_wp2_with fail
            go_loopw [14] (fun v wr => ∃ k : Nat, k ≤ n1 ∧ v = .int .i64 k ∧ wr.rowIs w7.heap.size 3 n1 (part (fun _ => -1) k) ∧ Below w7.heap.size w7 wr) (fun v _ => n1 - (intOf v).toNat)
            case atStart => exact ⟨0, Nat.zero_le _, rfl, (World.rowIs_made w7 (.int .i64 0) n1 3).congr fun i _ => (part_zero _ i).symm, (Below.refl _ _).alloc (Nat.le_refl _) _⟩
            case round =>
              obtain ⟨k2, hk2, rfl, hrow, hbel⟩ := hrel
              by_cases hlt2 : k2 < n1
              · have hcw2 := hrow.cell hlt2
                have hfr2 := hrow.frozen k2
                have R := hidden hrow
                have BA := hidden hbel
                clear hrow hbel
                go_wp2_with fail
                go_roundw
                case rel => exact ⟨k2 + 1, by omega, by go_num, part_put R.out rfl, BA.out.setCell (Nat.le_refl _) _⟩
                case measure => simp [intOf]; omega
              · have RA := hidden (hrow.congr (fun i hi => part_all (fun _ => -1) k2 i (by omega)))
                have BA := hidden hbel
                clear hrow hbel
                go_wp2_with fail
                refine (zzstarts_any _ _ _ _ _ _ fb (fun _ => -1) _ (RB.out.below (BW.out.trans (BA.out.mono BW.out.size))) (Row.of_row RA.out) (by omega) HR.out).mono ?_
                rintro e w8 ⟨rfl, rfl⟩
                clear RA
                have hall : sw n0 n1 fb (fun _ => -1) = decide (n1 ≤ n0) := sw_all n0 n1 fb
                have hib : ¬ i < n0 := by have := HX.out; omega
                go_wp2
                go_ret
                exact ⟨rfl, BL.out.trans ((BW.out.trans (BA.out.mono BW.out.size)).mono BL.out.size)⟩
        · rcases Bool.eq_false_or_eq_true (sw (n0 - i) 1 (fun k => fb (i + k)) (fun k => fo (i + k))) with hR | hR
          · go_wp2_with fail
            refine (zzstarts_any _ _ _ _ _ _ fb (putAt fo i (-1)) _ (RB.out.below BW.out) (Row.of_row RW.out) (by omega) HR.out).mono ?_
            rintro e w7 ⟨rfl, rfl⟩
            clear RW
            have hW : sw n0 n1 fb fo = false := by rw [HC.out, hL, hR]; rfl
            go_wp2_with fail
            go_loopw [14] (fun v wr => ∃ k : Nat, k ≤ n1 ∧ v = .int .i64 k ∧ wr.rowIs w7.heap.size 3 n1 (part (fun _ => -1) k) ∧ Below w7.heap.size w7 wr) (fun v _ => n1 - (intOf v).toNat)
            case atStart => exact ⟨0, Nat.zero_le _, rfl, (World.rowIs_made w7 (.int .i64 0) n1 3).congr fun i _ => (part_zero _ i).symm, (Below.refl _ _).alloc (Nat.le_refl _) _⟩
            case round =>
              obtain ⟨k2, hk2, rfl, hrow, hbel⟩ := hrel
              by_cases hlt2 : k2 < n1
              · have hcw2 := hrow.cell hlt2
                have hfr2 := hrow.frozen k2
                have R := hidden hrow
                have BA := hidden hbel
                clear hrow hbel
                go_wp2_with fail
                go_roundw
                case rel => exact ⟨k2 + 1, by omega, by go_num, part_put R.out rfl, BA.out.setCell (Nat.le_refl _) _⟩
                case measure => simp [intOf]; omega
              · have RA := hidden (hrow.congr (fun i hi => part_all (fun _ => -1) k2 i (by omega)))
                have BA := hidden hbel
                clear hrow hbel
                go_wp2_with fail
                refine (zzstarts_any _ _ _ _ _ _ fb (fun _ => -1) _ (RB.out.below (BW.out.trans (BA.out.mono BW.out.size))) (Row.of_row RA.out) (by omega) HR.out).mono ?_
                rintro e w8 ⟨rfl, rfl⟩
                clear RA
                have hall : sw n0 n1 fb (fun _ => -1) = decide (n1 ≤ n0) := sw_all n0 n1 fb
                have hib : ¬ i < n0 := by have := HX.out; omega
                go_wp2
                go_ret
                exact ⟨rfl, BL.out.trans ((BW.out.trans (BA.out.mono BW.out.size)).mono BL.out.size)⟩
          · go_wp2_with fail
            refine (zzstarts_any _ _ _ _ _ _ fb (putAt fo i (-1)) _ (RB.out.below BW.out) (Row.of_row RW.out) (by omega) HR.out).mono ?_
            rintro e w7 ⟨rfl, rfl⟩
            clear RW
            have hW : sw n0 n1 fb fo = false := by rw [HC.out, hL, hR]; rfl
            go_wp2_with fail
            go_loopw [14] (fun v wr => ∃ k : Nat, k ≤ n1 ∧ v = .int .i64 k ∧ wr.rowIs w7.heap.size 3 n1 (part (fun _ => -1) k) ∧ Below w7.heap.size w7 wr) (fun v _ => n1 - (intOf v).toNat)
            case atStart => exact ⟨0, Nat.zero_le _, rfl, (World.rowIs_made w7 (.int .i64 0) n1 3).congr fun i _ => (part_zero _ i).symm, (Below.refl _ _).alloc (Nat.le_refl _) _⟩
            case round =>
              obtain ⟨k2, hk2, rfl, hrow, hbel⟩ := hrel
              by_cases hlt2 : k2 < n1
              · have hcw2 := hrow.cell hlt2
                have hfr2 := hrow.frozen k2
                have R := hidden hrow
                have BA := hidden hbel
                clear hrow hbel
                go_wp2_with fail
                go_roundw
                case rel => exact ⟨k2 + 1, by omega, by go_num, part_put R.out rfl, BA.out.setCell (Nat.le_refl _) _⟩
                case measure => simp [intOf]; omega
              · have RA := hidden (hrow.congr (fun i hi => part_all (fun _ => -1) k2 i (by omega)))
                have BA := hidden hbel
                clear hrow hbel
                go_wp2_with fail
                refine (zzstarts_any _ _ _ _ _ _ fb (fun _ => -1) _ (RB.out.below (BW.out.trans (BA.out.mono BW.out.size))) (Row.of_row RA.out) (by omega) HR.out).mono ?_
                rintro e w8 ⟨rfl, rfl⟩
                clear RA
                have hall : sw n0 n1 fb (fun _ => -1) = decide (n1 ≤ n0) := sw_all n0 n1 fb
                have hib : ¬ i < n0 := by have := HX.out; omega
                go_wp2
                go_ret
                exact ⟨rfl, BL.out.trans ((BW.out.trans (BA.out.mono BW.out.size)).mono BL.out.size)⟩
      · have hL : sw n0 n1 fb (putAt fo i (-1)) = false := sw_short (by omega)
        go_wp2_with fail
        generalize wr.setCell ⟨w'.heap.size, i, none⟩ (.int .i64 (-1)) = w5 at RW BW ⊢
        clear hcw hfr
        refine (zzstarts_any _ _ _ _ _ _ fb (putAt fo i (-1)) _ (RB.out.below BW.out) (Row.of_row RW.out) (by omega) HR.out).mono ?_
        rintro e w7 ⟨rfl, rfl⟩
        clear RW
        have hW : sw n0 n1 fb fo = false := sw_short (by omega)
        go_wp2_with fail
        go_loopw [14] (fun v wr => ∃ k : Nat, k ≤ n1 ∧ v = .int .i64 k ∧ wr.rowIs w7.heap.size 3 n1 (part (fun _ => -1) k) ∧ Below w7.heap.size w7 wr) (fun v _ => n1 - (intOf v).toNat)
        case atStart => exact ⟨0, Nat.zero_le _, rfl, (World.rowIs_made w7 (.int .i64 0) n1 3).congr fun i _ => (part_zero _ i).symm, (Below.refl _ _).alloc (Nat.le_refl _) _⟩
        case round =>
          obtain ⟨k2, hk2, rfl, hrow, hbel⟩ := hrel
          by_cases hlt2 : k2 < n1
          · have hcw2 := hrow.cell hlt2
            have hfr2 := hrow.frozen k2
            have R := hidden hrow
            have BA := hidden hbel
            clear hrow hbel
            go_wp2_with fail
            go_roundw
            case rel => exact ⟨k2 + 1, by omega, by go_num, part_put R.out rfl, BA.out.setCell (Nat.le_refl _) _⟩
            case measure => simp [intOf]; omega
          · have RA := hidden (hrow.congr (fun i hi => part_all (fun _ => -1) k2 i (by omega)))
            have BA := hidden hbel
            clear hrow hbel
            go_wp2_with fail
            refine (zzstarts_any _ _ _ _ _ _ fb (fun _ => -1) _ (RB.out.below (BW.out.trans (BA.out.mono BW.out.size))) (Row.of_row RA.out) (by omega) HR.out).mono ?_
            rintro e w8 ⟨rfl, rfl⟩
            clear RA
            have hall : sw n0 n1 fb (fun _ => -1) = false := sw_short (by omega)
            go_wp2
            go_ret
            exact ⟨rfl, BL.out.trans ((BW.out.trans (BA.out.mono BW.out.size)).mono BL.out.size)⟩

end Go.Proofs.Qxb6618057a
