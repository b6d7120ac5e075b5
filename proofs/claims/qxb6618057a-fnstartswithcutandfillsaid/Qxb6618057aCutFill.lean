/- The walk of FnStartsWithCutAndFill on its one long way, in four ways (b nil or not, opening nil or not). -/
import Derived.Test.Qxb6618057aCuts
import Derived.Deep.QuietTactic
import Derived.BigQuiet
namespace Go.Proofs.Qxb6618057a
open Go.ChangeShapes Go.WideShapes Go.ChangeAt Go.RowKit

set_option maxHeartbeats 2000000 in
theorem cutfill_ss (x y : Addr) (n0 c0 n1 c1 : Nat) (j : Nat) (fb fo : Nat → Int) (w : World) (h1 : n0 + 8 * n1 ≤ 1048576) (hj : j ≤ n1)
    (hx : ∀ i, i < n0 → w.cell? (x.add i) = some (.int .u8 (fb i))) (hy : ∀ i, i < n1 → w.cell? (y.add i) = some (.int .i64 (fo i)))
    (hr : ∀ i, i < n0 → 0 ≤ fb i ∧ fb i ≤ 255) :
    Calls Try.prog 3 #[.slice (some x) n0 c0, .slice (some y) n1 c1, .int .i64 j] w fun e w' => e = .returned (.bool true) ∧ Below w.heap.size w w' := by
  obtain ⟨w2, hcp1, hrow1, hbel1⟩ := copy_made 22 5 .u8 Try.underlying22 Try.one5 w x n0 c0 fb hx
  have hy2 : ∀ i, i < n1 → w2.cell? (y.add i) = some (.int .i64 (fo i)) := fun i hi => (hbel1.cell (World.block_lt_of_cell? w _ (hy i hi))).trans (hy i hi)
  obtain ⟨w3, hcp2, hrow2, hbel2⟩ := copy_made 23 3 .i64 Try.underlying23 Try.one3 w2 y n1 c1 fo hy2
  have RB := hidden (Row.of_row (hrow1.of_block (hbel2.block _ hrow1.lt)))
  have RO := hidden (Row.of_row hrow2)
  have BL := hidden (hbel1.trans (hbel2.mono hbel1.size))
  have HR := hidden hr
  clear hx hy hr hrow1 hbel1 hrow2 hbel2 hy2
  have hmk5 := run_make_row' (P := Try.prog) 22 5 (.int .u8 0) 1 Try.underlying22 Try.info5 rfl .i64 .i64 n0 (by omega) (by omega)
  have hmk3 := run_make_row' (P := Try.prog) 23 3 (.int .i64 0) 8 Try.underlying23 Try.info3 rfl .i64 .i64 n1 (by omega) (by omega)
  have hn22 := fun wx => run_neq_slice_nil_any (P := Try.prog) wx 22 5 (some x) n0 c0 0 0 Try.underlying22
  have hn23 := fun wx => run_neq_slice_nil_any (P := Try.prog) wx 23 3 (some y) n1 c1 0 0 Try.underlying23
  go_enter Try.func3, Try.ntmps3
  go_wp2_with (go_at_call 8; go_in)
  clear hn22 hn23 hmk5 hcp1 hmk3 hcp2
  refine (zzstarts_any _ _ _ _ _ _ fb fo _ RB.out RO.out (by omega) HR.out).mono ?_
  rintro e w' ⟨rfl, rfl⟩
  go_wp2_with fail
  refine (zzstarts_any _ _ _ _ _ _ fb fo _ RB.out (RO.out.take hj) (by omega) HR.out).mono ?_
  rintro e w' ⟨rfl, rfl⟩
  by_cases hjn : j ≤ n0
  · have hcut := sw_cut n0 n1 j fb fo hj hjn
    have HC := hidden hcut
    clear hcut
    go_wp2_with fail
    go_quiet ((go_at_call 9; exact Calls.quiet_of_same (zzstarts_any _ _ _ _ _ _ (fun i => fb (j + i)) (fun i => fo (j + i)) _ ((RB.out.cut_new j).drewN _) ((RO.out.cut_new j).drewN _) (by omega) (fun i hi => HR.out (j + i) (by omega)))))
    generalize (if n0 = j then (some ⟨w.heap.size, 0, none⟩ : Option Addr) else some ⟨w.heap.size, j, none⟩) = A0
    generalize (if n1 = j then (some ⟨w2.heap.size, 0, none⟩ : Option Addr) else some ⟨w2.heap.size, j, none⟩) = A1
    have hcut := HC.out
    clear HC
    rcases Bool.eq_false_or_eq_true (sw n0 j fb fo) with hL | hL
    · rcases Bool.eq_false_or_eq_true (sw (n0 - j) (n1 - j) (fun i => fb (j + i)) (fun i => fo (j + i))) with hR | hR
      · have hW : sw n0 n1 fb fo = true := by rw [hcut, hL, hR]; rfl
        clear hcut
        go_wp2_with fail
        refine (fill_any _ _ _ _ _ _ fb fo _ (RB.out.drewN nq) (RO.out.drewN nq) (by omega) HR.out).mono ?_
        rintro e w4 ⟨rfl, hrow4, hbel4⟩
        have RF := hidden hrow4
        have BF := hidden hbel4
        clear hrow4 hbel4
        go_wp2_with fail
        refine (zzstarts_any _ _ _ _ _ _ fb (fill n0 fb fo) _ ((RB.out.drewN nq).below BF.out) (Row.of_row RF.out) (by omega) HR.out).mono ?_
        rintro e w5 ⟨rfl, rfl⟩
        go_wp2
        go_ret
        exact ⟨ret_bool (fill_eq n0 n1 fb fo), BL.out.trans ((undrew BF.out).mono BL.out.size)⟩
      · have hW : sw n0 n1 fb fo = false := by rw [hcut, hL, hR]; rfl
        clear hcut
        go_wp2_with fail
        refine (fill_any _ _ _ _ _ _ fb fo _ (RB.out.drewN nq) (RO.out.drewN nq) (by omega) HR.out).mono ?_
        rintro e w4 ⟨rfl, hrow4, hbel4⟩
        have RF := hidden hrow4
        have BF := hidden hbel4
        clear hrow4 hbel4
        go_wp2_with fail
        refine (zzstarts_any _ _ _ _ _ _ fb (fill n0 fb fo) _ ((RB.out.drewN nq).below BF.out) (Row.of_row RF.out) (by omega) HR.out).mono ?_
        rintro e w5 ⟨rfl, rfl⟩
        go_wp2
        go_ret
        exact ⟨ret_bool (fill_eq n0 n1 fb fo), BL.out.trans ((undrew BF.out).mono BL.out.size)⟩
    · rcases Bool.eq_false_or_eq_true (sw (n0 - j) (n1 - j) (fun i => fb (j + i)) (fun i => fo (j + i))) with hR | hR
      · have hW : sw n0 n1 fb fo = false := by rw [hcut, hL, hR]; rfl
        clear hcut
        go_wp2_with fail
        refine (fill_any _ _ _ _ _ _ fb fo _ (RB.out.drewN nq) (RO.out.drewN nq) (by omega) HR.out).mono ?_
        rintro e w4 ⟨rfl, hrow4, hbel4⟩
        have RF := hidden hrow4
        have BF := hidden hbel4
        clear hrow4 hbel4
        go_wp2_with fail
        refine (zzstarts_any _ _ _ _ _ _ fb (fill n0 fb fo) _ ((RB.out.drewN nq).below BF.out) (Row.of_row RF.out) (by omega) HR.out).mono ?_
        rintro e w5 ⟨rfl, rfl⟩
        go_wp2
        go_ret
        exact ⟨ret_bool (fill_eq n0 n1 fb fo), BL.out.trans ((undrew BF.out).mono BL.out.size)⟩
      · have hW : sw n0 n1 fb fo = false := by rw [hcut, hL, hR]; rfl
        clear hcut
        go_wp2_with fail
        refine (fill_any _ _ _ _ _ _ fb fo _ (RB.out.drewN nq) (RO.out.drewN nq) (by omega) HR.out).mono ?_
        rintro e w4 ⟨rfl, hrow4, hbel4⟩
        have RF := hidden hrow4
        have BF := hidden hbel4
        clear hrow4 hbel4
        go_wp2_with fail
        refine (zzstarts_any _ _ _ _ _ _ fb (fill n0 fb fo) _ ((RB.out.drewN nq).below BF.out) (Row.of_row RF.out) (by omega) HR.out).mono ?_
        rintro e w5 ⟨rfl, rfl⟩
        go_wp2
        go_ret
        exact ⟨ret_bool (fill_eq n0 n1 fb fo), BL.out.trans ((undrew BF.out).mono BL.out.size)⟩
  · have hL : sw n0 j fb fo = false := sw_short (by omega)
    have hW : sw n0 n1 fb fo = false := sw_short (by omega)
    go_wp2_with fail
    refine (fill_any _ _ _ _ _ _ fb fo _ RB.out RO.out (by omega) HR.out).mono ?_
    rintro e w4 ⟨rfl, hrow4, hbel4⟩
    have RF := hidden hrow4
    have BF := hidden hbel4
    clear hrow4 hbel4
    go_wp2_with fail
    refine (zzstarts_any _ _ _ _ _ _ fb (fill n0 fb fo) _ (RB.out.below BF.out) (Row.of_row RF.out) (by omega) HR.out).mono ?_
    rintro e w5 ⟨rfl, rfl⟩
    go_wp2
    go_ret
    exact ⟨ret_bool (fill_eq n0 n1 fb fo), BL.out.trans (BF.out.mono BL.out.size)⟩

set_option maxHeartbeats 2000000 in
theorem cutfill_sn (x : Addr) (n0 c0 n1 c1 : Nat) (j : Nat) (fb fo : Nat → Int) (w : World) (h1 : n0 + 8 * n1 ≤ 1048576) (hj : j ≤ n1)
    (hx : ∀ i, i < n0 → w.cell? (x.add i) = some (.int .u8 (fb i))) (hy : n1 = 0) (_hc1 : n1 ≤ c1)
    (hr : ∀ i, i < n0 → 0 ≤ fb i ∧ fb i ≤ 255) :
    Calls Try.prog 3 #[.slice (some x) n0 c0, .slice none n1 c1, .int .i64 j] w fun e w' => e = .returned (.bool true) ∧ Below w.heap.size w w' := by
  obtain ⟨w2, hcp1, hrow1, hbel1⟩ := copy_made 22 5 .u8 Try.underlying22 Try.one5 w x n0 c0 fb hx
  have RB := hidden (Row.of_row hrow1)
  have RO : Hid (Row .i64 w2 none n1 fo) := hidden (.inl hy)
  have BL := hidden hbel1
  have HR := hidden hr
  clear hx hy hr hrow1 hbel1
  have hmk5 := run_make_row' (P := Try.prog) 22 5 (.int .u8 0) 1 Try.underlying22 Try.info5 rfl .i64 .i64 n0 (by omega) (by omega)
  have hn22 := fun wx => run_neq_slice_nil_any (P := Try.prog) wx 22 5 (some x) n0 c0 0 0 Try.underlying22
  have hn23 := fun wx => run_neq_slice_nil_any (P := Try.prog) wx 23 3 none n1 c1 0 0 Try.underlying23
  go_enter Try.func3, Try.ntmps3
  go_wp2_with (go_at_call 8; go_in)
  clear hn22 hn23 hmk5 hcp1
  refine (zzstarts_any _ _ _ _ _ _ fb fo _ RB.out RO.out (by omega) HR.out).mono ?_
  rintro e w' ⟨rfl, rfl⟩
  go_wp2_with fail
  refine (zzstarts_any _ _ _ _ _ _ fb fo _ RB.out (RO.out.take hj) (by omega) HR.out).mono ?_
  rintro e w' ⟨rfl, rfl⟩
  by_cases hjn : j ≤ n0
  · have hcut := sw_cut n0 n1 j fb fo hj hjn
    have HC := hidden hcut
    clear hcut
    go_wp2_with fail
    go_quiet ((go_at_call 9; exact Calls.quiet_of_same (zzstarts_any _ _ _ _ _ _ (fun i => fb (j + i)) (fun i => fo (j + i)) _ ((RB.out.cut_new j).drewN _) ((RO.out.cut_nil j).drewN _) (by omega) (fun i hi => HR.out (j + i) (by omega)))))
    generalize (if n0 = j then (some ⟨w.heap.size, 0, none⟩ : Option Addr) else some ⟨w.heap.size, j, none⟩) = A0
    have hcut := HC.out
    clear HC
    rcases Bool.eq_false_or_eq_true (sw n0 j fb fo) with hL | hL
    · rcases Bool.eq_false_or_eq_true (sw (n0 - j) (n1 - j) (fun i => fb (j + i)) (fun i => fo (j + i))) with hR | hR
      · have hW : sw n0 n1 fb fo = true := by rw [hcut, hL, hR]; rfl
        clear hcut
        go_wp2_with fail
        refine (fill_any _ _ _ _ _ _ fb fo _ (RB.out.drewN nq) (RO.out.drewN nq) (by omega) HR.out).mono ?_
        rintro e w4 ⟨rfl, hrow4, hbel4⟩
        have RF := hidden hrow4
        have BF := hidden hbel4
        clear hrow4 hbel4
        go_wp2_with fail
        refine (zzstarts_any _ _ _ _ _ _ fb (fill n0 fb fo) _ ((RB.out.drewN nq).below BF.out) (Row.of_row RF.out) (by omega) HR.out).mono ?_
        rintro e w5 ⟨rfl, rfl⟩
        go_wp2
        go_ret
        exact ⟨ret_bool (fill_eq n0 n1 fb fo), BL.out.trans ((undrew BF.out).mono BL.out.size)⟩
      · have hW : sw n0 n1 fb fo = false := by rw [hcut, hL, hR]; rfl
        clear hcut
        go_wp2_with fail
        refine (fill_any _ _ _ _ _ _ fb fo _ (RB.out.drewN nq) (RO.out.drewN nq) (by omega) HR.out).mono ?_
        rintro e w4 ⟨rfl, hrow4, hbel4⟩
        have RF := hidden hrow4
        have BF := hidden hbel4
        clear hrow4 hbel4
        go_wp2_with fail
        refine (zzstarts_any _ _ _ _ _ _ fb (fill n0 fb fo) _ ((RB.out.drewN nq).below BF.out) (Row.of_row RF.out) (by omega) HR.out).mono ?_
        rintro e w5 ⟨rfl, rfl⟩
        go_wp2
        go_ret
        exact ⟨ret_bool (fill_eq n0 n1 fb fo), BL.out.trans ((undrew BF.out).mono BL.out.size)⟩
    · rcases Bool.eq_false_or_eq_true (sw (n0 - j) (n1 - j) (fun i => fb (j + i)) (fun i => fo (j + i))) with hR | hR
      · have hW : sw n0 n1 fb fo = false := by rw [hcut, hL, hR]; rfl
        clear hcut
        go_wp2_with fail
        refine (fill_any _ _ _ _ _ _ fb fo _ (RB.out.drewN nq) (RO.out.drewN nq) (by omega) HR.out).mono ?_
        rintro e w4 ⟨rfl, hrow4, hbel4⟩
        have RF := hidden hrow4
        have BF := hidden hbel4
        clear hrow4 hbel4
        go_wp2_with fail
        refine (zzstarts_any _ _ _ _ _ _ fb (fill n0 fb fo) _ ((RB.out.drewN nq).below BF.out) (Row.of_row RF.out) (by omega) HR.out).mono ?_
        rintro e w5 ⟨rfl, rfl⟩
        go_wp2
        go_ret
        exact ⟨ret_bool (fill_eq n0 n1 fb fo), BL.out.trans ((undrew BF.out).mono BL.out.size)⟩
      · have hW : sw n0 n1 fb fo = false := by rw [hcut, hL, hR]; rfl
        clear hcut
        go_wp2_with fail
        refine (fill_any _ _ _ _ _ _ fb fo _ (RB.out.drewN nq) (RO.out.drewN nq) (by omega) HR.out).mono ?_
        rintro e w4 ⟨rfl, hrow4, hbel4⟩
        have RF := hidden hrow4
        have BF := hidden hbel4
        clear hrow4 hbel4
        go_wp2_with fail
        refine (zzstarts_any _ _ _ _ _ _ fb (fill n0 fb fo) _ ((RB.out.drewN nq).below BF.out) (Row.of_row RF.out) (by omega) HR.out).mono ?_
        rintro e w5 ⟨rfl, rfl⟩
        go_wp2
        go_ret
        exact ⟨ret_bool (fill_eq n0 n1 fb fo), BL.out.trans ((undrew BF.out).mono BL.out.size)⟩
  · have hL : sw n0 j fb fo = false := sw_short (by omega)
    have hW : sw n0 n1 fb fo = false := sw_short (by omega)
    go_wp2_with fail
    refine (fill_any _ _ _ _ _ _ fb fo _ RB.out RO.out (by omega) HR.out).mono ?_
    rintro e w4 ⟨rfl, hrow4, hbel4⟩
    have RF := hidden hrow4
    have BF := hidden hbel4
    clear hrow4 hbel4
    go_wp2_with fail
    refine (zzstarts_any _ _ _ _ _ _ fb (fill n0 fb fo) _ (RB.out.below BF.out) (Row.of_row RF.out) (by omega) HR.out).mono ?_
    rintro e w5 ⟨rfl, rfl⟩
    go_wp2
    go_ret
    exact ⟨ret_bool (fill_eq n0 n1 fb fo), BL.out.trans (BF.out.mono BL.out.size)⟩

set_option maxHeartbeats 2000000 in
theorem cutfill_ns (y : Addr) (n0 c0 n1 c1 : Nat) (j : Nat) (fb fo : Nat → Int) (w : World) (h1 : n0 + 8 * n1 ≤ 1048576) (hj : j ≤ n1)
    (hx : n0 = 0) (hy : ∀ i, i < n1 → w.cell? (y.add i) = some (.int .i64 (fo i)))
    (hr : ∀ i, i < n0 → 0 ≤ fb i ∧ fb i ≤ 255) :
    Calls Try.prog 3 #[.slice none n0 c0, .slice (some y) n1 c1, .int .i64 j] w fun e w' => e = .returned (.bool true) ∧ Below w.heap.size w w' := by
  obtain ⟨w3, hcp2, hrow2, hbel2⟩ := copy_made 23 3 .i64 Try.underlying23 Try.one3 w y n1 c1 fo hy
  have RB : Hid (Row .u8 w3 none n0 fb) := hidden (.inl hx)
  have RO := hidden (Row.of_row hrow2)
  have BL := hidden hbel2
  have HR := hidden hr
  clear hx hy hr hrow2 hbel2
  have hmk3 := run_make_row' (P := Try.prog) 23 3 (.int .i64 0) 8 Try.underlying23 Try.info3 rfl .i64 .i64 n1 (by omega) (by omega)
  have hn22 := fun wx => run_neq_slice_nil_any (P := Try.prog) wx 22 5 none n0 c0 0 0 Try.underlying22
  have hn23 := fun wx => run_neq_slice_nil_any (P := Try.prog) wx 23 3 (some y) n1 c1 0 0 Try.underlying23
  go_enter Try.func3, Try.ntmps3
  go_wp2_with (go_at_call 8; go_in)
  clear hn22 hn23 hmk3 hcp2
  refine (zzstarts_any _ _ _ _ _ _ fb fo _ RB.out RO.out (by omega) HR.out).mono ?_
  rintro e w' ⟨rfl, rfl⟩
  go_wp2_with fail
  refine (zzstarts_any _ _ _ _ _ _ fb fo _ RB.out (RO.out.take hj) (by omega) HR.out).mono ?_
  rintro e w' ⟨rfl, rfl⟩
  by_cases hjn : j ≤ n0
  · have hcut := sw_cut n0 n1 j fb fo hj hjn
    have HC := hidden hcut
    clear hcut
    go_wp2_with fail
    go_quiet ((go_at_call 9; exact Calls.quiet_of_same (zzstarts_any _ _ _ _ _ _ (fun i => fb (j + i)) (fun i => fo (j + i)) _ ((RB.out.cut_nil j).drewN _) ((RO.out.cut_new j).drewN _) (by omega) (fun i hi => HR.out (j + i) (by omega)))))
    generalize (if n1 = j then (some ⟨w.heap.size, 0, none⟩ : Option Addr) else some ⟨w.heap.size, j, none⟩) = A1
    have hcut := HC.out
    clear HC
    rcases Bool.eq_false_or_eq_true (sw n0 j fb fo) with hL | hL
    · rcases Bool.eq_false_or_eq_true (sw (n0 - j) (n1 - j) (fun i => fb (j + i)) (fun i => fo (j + i))) with hR | hR
      · have hW : sw n0 n1 fb fo = true := by rw [hcut, hL, hR]; rfl
        clear hcut
        go_wp2_with fail
        refine (fill_any _ _ _ _ _ _ fb fo _ (RB.out.drewN nq) (RO.out.drewN nq) (by omega) HR.out).mono ?_
        rintro e w4 ⟨rfl, hrow4, hbel4⟩
        have RF := hidden hrow4
        have BF := hidden hbel4
        clear hrow4 hbel4
        go_wp2_with fail
        refine (zzstarts_any _ _ _ _ _ _ fb (fill n0 fb fo) _ ((RB.out.drewN nq).below BF.out) (Row.of_row RF.out) (by omega) HR.out).mono ?_
        rintro e w5 ⟨rfl, rfl⟩
        go_wp2
        go_ret
        exact ⟨ret_bool (fill_eq n0 n1 fb fo), BL.out.trans ((undrew BF.out).mono BL.out.size)⟩
      · have hW : sw n0 n1 fb fo = false := by rw [hcut, hL, hR]; rfl
        clear hcut
        go_wp2_with fail
        refine (fill_any _ _ _ _ _ _ fb fo _ (RB.out.drewN nq) (RO.out.drewN nq) (by omega) HR.out).mono ?_
        rintro e w4 ⟨rfl, hrow4, hbel4⟩
        have RF := hidden hrow4
        have BF := hidden hbel4
        clear hrow4 hbel4
        go_wp2_with fail
        refine (zzstarts_any _ _ _ _ _ _ fb (fill n0 fb fo) _ ((RB.out.drewN nq).below BF.out) (Row.of_row RF.out) (by omega) HR.out).mono ?_
        rintro e w5 ⟨rfl, rfl⟩
        go_wp2
        go_ret
        exact ⟨ret_bool (fill_eq n0 n1 fb fo), BL.out.trans ((undrew BF.out).mono BL.out.size)⟩
    · rcases Bool.eq_false_or_eq_true (sw (n0 - j) (n1 - j) (fun i => fb (j + i)) (fun i => fo (j + i))) with hR | hR
      · have hW : sw n0 n1 fb fo = false := by rw [hcut, hL, hR]; rfl
        clear hcut
        go_wp2_with fail
        refine (fill_any _ _ _ _ _ _ fb fo _ (RB.out.drewN nq) (RO.out.drewN nq) (by omega) HR.out).mono ?_
        rintro e w4 ⟨rfl, hrow4, hbel4⟩
        have RF := hidden hrow4
        have BF := hidden hbel4
        clear hrow4 hbel4
        go_wp2_with fail
        refine (zzstarts_any _ _ _ _ _ _ fb (fill n0 fb fo) _ ((RB.out.drewN nq).below BF.out) (Row.of_row RF.out) (by omega) HR.out).mono ?_
        rintro e w5 ⟨rfl, rfl⟩
        go_wp2
        go_ret
        exact ⟨ret_bool (fill_eq n0 n1 fb fo), BL.out.trans ((undrew BF.out).mono BL.out.size)⟩
      · have hW : sw n0 n1 fb fo = false := by rw [hcut, hL, hR]; rfl
        clear hcut
        go_wp2_with fail
        refine (fill_any _ _ _ _ _ _ fb fo _ (RB.out.drewN nq) (RO.out.drewN nq) (by omega) HR.out).mono ?_
        rintro e w4 ⟨rfl, hrow4, hbel4⟩
        have RF := hidden hrow4
        have BF := hidden hbel4
        clear hrow4 hbel4
        go_wp2_with fail
        refine (zzstarts_any _ _ _ _ _ _ fb (fill n0 fb fo) _ ((RB.out.drewN nq).below BF.out) (Row.of_row RF.out) (by omega) HR.out).mono ?_
        rintro e w5 ⟨rfl, rfl⟩
        go_wp2
        go_ret
        exact ⟨ret_bool (fill_eq n0 n1 fb fo), BL.out.trans ((undrew BF.out).mono BL.out.size)⟩
  · have hL : sw n0 j fb fo = false := sw_short (by omega)
    have hW : sw n0 n1 fb fo = false := sw_short (by omega)
    go_wp2_with fail
    refine (fill_any _ _ _ _ _ _ fb fo _ RB.out RO.out (by omega) HR.out).mono ?_
    rintro e w4 ⟨rfl, hrow4, hbel4⟩
    have RF := hidden hrow4
    have BF := hidden hbel4
    clear hrow4 hbel4
    go_wp2_with fail
    refine (zzstarts_any _ _ _ _ _ _ fb (fill n0 fb fo) _ (RB.out.below BF.out) (Row.of_row RF.out) (by omega) HR.out).mono ?_
    rintro e w5 ⟨rfl, rfl⟩
    go_wp2
    go_ret
    exact ⟨ret_bool (fill_eq n0 n1 fb fo), BL.out.trans (BF.out.mono BL.out.size)⟩

set_option maxHeartbeats 2000000 in
theorem cutfill_nn (n0 c0 n1 c1 : Nat) (j : Nat) (fb fo : Nat → Int) (w : World) (h1 : n0 + 8 * n1 ≤ 1048576) (hj : j ≤ n1)
    (hx : n0 = 0) (hy : n1 = 0) (_hc1 : n1 ≤ c1)
    (hr : ∀ i, i < n0 → 0 ≤ fb i ∧ fb i ≤ 255) :
    Calls Try.prog 3 #[.slice none n0 c0, .slice none n1 c1, .int .i64 j] w fun e w' => e = .returned (.bool true) ∧ Below w.heap.size w w' := by
  have RB : Hid (Row .u8 w none n0 fb) := hidden (.inl hx)
  have RO : Hid (Row .i64 w none n1 fo) := hidden (.inl hy)
  have BL := hidden (Below.refl w.heap.size w)
  have HR := hidden hr
  clear hx hy hr
  have hn22 := fun wx => run_neq_slice_nil_any (P := Try.prog) wx 22 5 none n0 c0 0 0 Try.underlying22
  have hn23 := fun wx => run_neq_slice_nil_any (P := Try.prog) wx 23 3 none n1 c1 0 0 Try.underlying23
  go_enter Try.func3, Try.ntmps3
  go_wp2_with (go_at_call 8; go_in)
  clear hn22 hn23 
  refine (zzstarts_any _ _ _ _ _ _ fb fo _ RB.out RO.out (by omega) HR.out).mono ?_
  rintro e w' ⟨rfl, rfl⟩
  go_wp2_with fail
  refine (zzstarts_any _ _ _ _ _ _ fb fo _ RB.out (RO.out.take hj) (by omega) HR.out).mono ?_
  rintro e w' ⟨rfl, rfl⟩
  by_cases hjn : j ≤ n0
  · have hcut := sw_cut n0 n1 j fb fo hj hjn
    have HC := hidden hcut
    clear hcut
    go_wp2_with fail
    go_quiet ((go_at_call 9; exact Calls.quiet_of_same (zzstarts_any _ _ _ _ _ _ (fun i => fb (j + i)) (fun i => fo (j + i)) _ ((RB.out.cut_nil j).drewN _) ((RO.out.cut_nil j).drewN _) (by omega) (fun i hi => HR.out (j + i) (by omega)))))
    have hcut := HC.out
    clear HC
    rcases Bool.eq_false_or_eq_true (sw n0 j fb fo) with hL | hL
    · rcases Bool.eq_false_or_eq_true (sw (n0 - j) (n1 - j) (fun i => fb (j + i)) (fun i => fo (j + i))) with hR | hR
      · have hW : sw n0 n1 fb fo = true := by rw [hcut, hL, hR]; rfl
        clear hcut
        go_wp2_with fail
        refine (fill_any _ _ _ _ _ _ fb fo _ (RB.out.drewN nq) (RO.out.drewN nq) (by omega) HR.out).mono ?_
        rintro e w4 ⟨rfl, hrow4, hbel4⟩
        have RF := hidden hrow4
        have BF := hidden hbel4
        clear hrow4 hbel4
        go_wp2_with fail
        refine (zzstarts_any _ _ _ _ _ _ fb (fill n0 fb fo) _ ((RB.out.drewN nq).below BF.out) (Row.of_row RF.out) (by omega) HR.out).mono ?_
        rintro e w5 ⟨rfl, rfl⟩
        go_wp2
        go_ret
        exact ⟨ret_bool (fill_eq n0 n1 fb fo), BL.out.trans ((undrew BF.out).mono BL.out.size)⟩
      · have hW : sw n0 n1 fb fo = false := by rw [hcut, hL, hR]; rfl
        clear hcut
        go_wp2_with fail
        refine (fill_any _ _ _ _ _ _ fb fo _ (RB.out.drewN nq) (RO.out.drewN nq) (by omega) HR.out).mono ?_
        rintro e w4 ⟨rfl, hrow4, hbel4⟩
        have RF := hidden hrow4
        have BF := hidden hbel4
        clear hrow4 hbel4
        go_wp2_with fail
        refine (zzstarts_any _ _ _ _ _ _ fb (fill n0 fb fo) _ ((RB.out.drewN nq).below BF.out) (Row.of_row RF.out) (by omega) HR.out).mono ?_
        rintro e w5 ⟨rfl, rfl⟩
        go_wp2
        go_ret
        exact ⟨ret_bool (fill_eq n0 n1 fb fo), BL.out.trans ((undrew BF.out).mono BL.out.size)⟩
    · rcases Bool.eq_false_or_eq_true (sw (n0 - j) (n1 - j) (fun i => fb (j + i)) (fun i => fo (j + i))) with hR | hR
      · have hW : sw n0 n1 fb fo = false := by rw [hcut, hL, hR]; rfl
        clear hcut
        go_wp2_with fail
        refine (fill_any _ _ _ _ _ _ fb fo _ (RB.out.drewN nq) (RO.out.drewN nq) (by omega) HR.out).mono ?_
        rintro e w4 ⟨rfl, hrow4, hbel4⟩
        have RF := hidden hrow4
        have BF := hidden hbel4
        clear hrow4 hbel4
        go_wp2_with fail
        refine (zzstarts_any _ _ _ _ _ _ fb (fill n0 fb fo) _ ((RB.out.drewN nq).below BF.out) (Row.of_row RF.out) (by omega) HR.out).mono ?_
        rintro e w5 ⟨rfl, rfl⟩
        go_wp2
        go_ret
        exact ⟨ret_bool (fill_eq n0 n1 fb fo), BL.out.trans ((undrew BF.out).mono BL.out.size)⟩
      · have hW : sw n0 n1 fb fo = false := by rw [hcut, hL, hR]; rfl
        clear hcut
        go_wp2_with fail
        refine (fill_any _ _ _ _ _ _ fb fo _ (RB.out.drewN nq) (RO.out.drewN nq) (by omega) HR.out).mono ?_
        rintro e w4 ⟨rfl, hrow4, hbel4⟩
        have RF := hidden hrow4
        have BF := hidden hbel4
        clear hrow4 hbel4
        go_wp2_with fail
        refine (zzstarts_any _ _ _ _ _ _ fb (fill n0 fb fo) _ ((RB.out.drewN nq).below BF.out) (Row.of_row RF.out) (by omega) HR.out).mono ?_
        rintro e w5 ⟨rfl, rfl⟩
        go_wp2
        go_ret
        exact ⟨ret_bool (fill_eq n0 n1 fb fo), BL.out.trans ((undrew BF.out).mono BL.out.size)⟩
  · have hL : sw n0 j fb fo = false := sw_short (by omega)
    have hW : sw n0 n1 fb fo = false := sw_short (by omega)
    go_wp2_with fail
    refine (fill_any _ _ _ _ _ _ fb fo _ RB.out RO.out (by omega) HR.out).mono ?_
    rintro e w4 ⟨rfl, hrow4, hbel4⟩
    have RF := hidden hrow4
    have BF := hidden hbel4
    clear hrow4 hbel4
    go_wp2_with fail
    refine (zzstarts_any _ _ _ _ _ _ fb (fill n0 fb fo) _ (RB.out.below BF.out) (Row.of_row RF.out) (by omega) HR.out).mono ?_
    rintro e w5 ⟨rfl, rfl⟩
    go_wp2
    go_ret
    exact ⟨ret_bool (fill_eq n0 n1 fb fo), BL.out.trans (BF.out.mono BL.out.size)⟩

end Go.Proofs.Qxb6618057a
