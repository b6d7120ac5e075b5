/- zzFill: its walk. ZZstartsWith over rows. -/
import Derived.Test.Qxb6618057aStarts
namespace Go.Proofs.Qxb6618057a
open Go.ChangeShapes Go.WideShapes Go.ChangeAt Go.RowKit

theorem Try.info3 : (Try.prog.info? 3).map (fun i => (i.zero, i.size, i.bytes)) = some (some (.int .i64 0), 1, 8) := by kernel_rfl

theorem starts_any (a0 a1 : Option Addr) (n0 c0 n1 c1 : Nat) (fb fo : Nat → Int) (w : World) (h0 : Row .u8 w a0 n0 fb) (h1 : Row .i64 w a1 n1 fo) (hn : n1 ≤ 1048576) (hr : ∀ i, i < n0 → 0 ≤ fb i ∧ fb i ≤ 255) :
    Calls Try.prog 16 #[.slice a0 n0 c0, .slice a1 n1 c1] w fun e w' => e = .returned (.bool (sw n0 n1 fb fo)) ∧ w' = w := by
  by_cases h : n0 < n1
  · rw [sw_short h]
    exact starts_short a0 a1 n0 c0 n1 c1 w h
  · rcases h1 with rfl | ⟨b1, o1, rfl, ho⟩
    · rw [sw_yes (by omega) (fun i hi => absurd hi (by omega))]
      exact starts_none a0 a1 n0 c0 c1 w
    · rcases h0 with rfl | ⟨b0, o0, rfl, hb⟩
      · obtain rfl : n1 = 0 := by omega
        rw [sw_yes (by omega) (fun i hi => absurd hi (by omega))]
        exact starts_none _ _ _ _ _ w
      · exact starts_some b0 o0 b1 o1 n0 c0 n1 c1 fb fo w (by omega) hn hb ho hr

theorem zzstarts_any (a0 a1 : Option Addr) (n0 c0 n1 c1 : Nat) (fb fo : Nat → Int) (w : World) (h0 : Row .u8 w a0 n0 fb) (h1 : Row .i64 w a1 n1 fo) (hn : n1 ≤ 1048576) (hr : ∀ i, i < n0 → 0 ≤ fb i ∧ fb i ≤ 255) :
    Calls Try.prog 9 #[.slice a0 n0 c0, .slice a1 n1 c1] w fun e w' => e = .returned (.bool (sw n0 n1 fb fo)) ∧ w' = w := by
  have H := hidden (starts_any a0 a1 n0 c0 n1 c1 fb fo w h0 h1 hn hr)
  clear h0 h1 hr
  go_enter Try.func9, Try.ntmps9
  go_wp2_with fail
  refine H.out.mono ?_
  rintro e w' ⟨rfl, rfl⟩
  go_wp2
  go_ret
  exact ⟨rfl, rfl⟩

/-- the opening filled from b -/
def fill (n : Nat) (fb fo : Nat → Int) (i : Nat) : Int := if fo i ≠ -1 ∧ i < n then fb i else fo i
/-- the row of zzFill behind k rounds -/
def filled (n : Nat) (fb fo : Nat → Int) (k i : Nat) : Value := if i < k then .int .i64 (fill n fb fo i) else .int .i64 0

theorem filled_zero (n : Nat) (fb fo : Nat → Int) (i : Nat) : filled n fb fo 0 i = .int .i64 0 := if_neg (by omega)
theorem filled_all (n m : Nat) (fb fo : Nat → Int) (i : Nat) (h : i < m) : filled n fb fo m i = .int .i64 (fill n fb fo i) := if_pos h
theorem filled_succ (n : Nat) (fb fo : Nat → Int) (k i : Nat) : filled n fb fo (k + 1) i = if i = k then .int .i64 (fill n fb fo k) else filled n fb fo k i := by
  unfold filled
  by_cases h : i = k
  · subst h; rw [if_pos (by omega), if_pos rfl]
  · rw [if_neg h]
    by_cases h2 : i < k
    · rw [if_pos (by omega), if_pos h2]
    · rw [if_neg (by omega), if_neg h2]
theorem fill_byte {n : Nat} {fb fo : Nat → Int} {k : Nat} (h : (fo k != -1) = true) (hk : k < n) : fill n fb fo k = fb k := if_pos ⟨by simpa using h, hk⟩
theorem fill_wild {n : Nat} {fb fo : Nat → Int} {k : Nat} (h : (fo k != -1) = false) : fill n fb fo k = fo k := if_neg (fun e => e.1 (by simpa using h))
theorem fill_past {n : Nat} {fb fo : Nat → Int} {k : Nat} (hk : ¬ k < n) : fill n fb fo k = fo k := if_neg (fun e => hk e.2)
theorem filled_put {wr : World} {B n0 n1 k : Nat} {fb fo : Nat → Int} {x : Int} (h : wr.rowIs B 3 n1 (filled n0 fb fo k)) (e : fill n0 fb fo k = x) : (wr.setCell ⟨B, k, none⟩ (.int .i64 x)).rowIs B 3 n1 (filled n0 fb fo (k + 1)) :=
  (h.set k _).congr fun i _ => by rw [filled_succ, e]

set_option maxHeartbeats 800000 in
theorem fill_some (b0 o0 b1 o1 n0 c0 n1 c1 : Nat) (fb fo : Nat → Int) (w : World) (hn : n1 ≤ 1048576) (hB0 : b0 < w.heap.size) (hB1 : b1 < w.heap.size)
    (hb : ∀ i, i < n0 → w.cell? ⟨b0, o0 + i, none⟩ = some (.int .u8 (fb i))) (ho : ∀ i, i < n1 → w.cell? ⟨b1, o1 + i, none⟩ = some (.int .i64 (fo i)))
    (hr : ∀ i, i < n0 → 0 ≤ fb i ∧ fb i ≤ 255) :
    Calls Try.prog 10 #[.slice (some ⟨b0, o0, none⟩) n0 c0, .slice (some ⟨b1, o1, none⟩) n1 c1] w fun e w' => e = .returned (.slice (some ⟨w.heap.size, 0, none⟩) n1 n1) ∧ w'.rowIs w.heap.size 3 n1 (fun i => .int .i64 (fill n0 fb fo i)) ∧ Below w.heap.size w w' := by
  have HB := hidden hb
  have HO := hidden ho
  have HR := hidden hr
  clear hb ho hr
  have hmk := run_make_row' (P := Try.prog) 23 3 (.int .i64 0) 8 Try.underlying23 Try.info3 rfl .i64 .i64 n1 (by omega) (by omega)
  go_enter Try.func10, Try.ntmps10
  go_wp2
  clear hmk
  go_loopw [6] (fun i wr => ∃ k : Nat, k ≤ n1 ∧ i = .int .i64 k ∧ wr.rowIs w.heap.size 3 n1 (filled n0 fb fo k) ∧ Below w.heap.size w wr) (fun i _ => n1 - (intOf i).toNat)
  case atStart => exact ⟨0, Nat.zero_le _, rfl, (World.rowIs_made w (.int .i64 0) n1 3).congr fun i _ => (filled_zero _ _ _ i).symm, (Below.refl _ _).alloc (Nat.le_refl _) _⟩
  case round =>
    obtain ⟨k, hk, rfl, hrow, hbel⟩ := hrel
    by_cases hlt : k < n1
    · have hco := (hbel.cell (p := ⟨b1, o1 + k, none⟩) hB1).trans (HO.out k hlt)
      have hcw := hrow.cell hlt
      have hfr := hrow.frozen k
      have R := hidden hrow
      have BL := hidden hbel
      clear hrow hbel
      rcases Bool.eq_false_or_eq_true (fo k != -1) with hA | hA
      · by_cases hk0 : k < n0
        · have hcb := (BL.out.cell (p := ⟨b0, o0 + k, none⟩) hB0).trans (HB.out k hk0)
          have hbd := HR.out k hk0
          go_wp2
          go_roundw
          case rel => exact ⟨k + 1, by omega, by go_num, filled_put R.out (fill_byte hA hk0), BL.out.setCell (Nat.le_refl _) _⟩
          case measure => simp [intOf]; omega
        · go_wp2
          go_roundw
          case rel => exact ⟨k + 1, by omega, by go_num, filled_put R.out (fill_past hk0), BL.out.setCell (Nat.le_refl _) _⟩
          case measure => simp [intOf]; omega
      · go_wp2
        go_roundw
        case rel => exact ⟨k + 1, by omega, by go_num, filled_put R.out (fill_wild hA), BL.out.setCell (Nat.le_refl _) _⟩
        case measure => simp [intOf]; omega
    · go_wp2
      go_ret
      exact ⟨rfl, hrow.congr (fun i hi => filled_all _ _ _ _ i (by omega)), hbel⟩

set_option maxHeartbeats 800000 in
theorem fill_nob (a0 : Option Addr) (b1 o1 c0 n1 c1 : Nat) (fb fo : Nat → Int) (w : World) (hn : n1 ≤ 1048576) (hB1 : b1 < w.heap.size)
    (ho : ∀ i, i < n1 → w.cell? ⟨b1, o1 + i, none⟩ = some (.int .i64 (fo i))) :
    Calls Try.prog 10 #[.slice a0 0 c0, .slice (some ⟨b1, o1, none⟩) n1 c1] w fun e w' => e = .returned (.slice (some ⟨w.heap.size, 0, none⟩) n1 n1) ∧ w'.rowIs w.heap.size 3 n1 (fun i => .int .i64 (fill 0 fb fo i)) ∧ Below w.heap.size w w' := by
  have HO := hidden ho
  clear ho
  have hmk := run_make_row' (P := Try.prog) 23 3 (.int .i64 0) 8 Try.underlying23 Try.info3 rfl .i64 .i64 n1 (by omega) (by omega)
  go_enter Try.func10, Try.ntmps10
  go_wp2
  clear hmk
  go_loopw [6] (fun i wr => ∃ k : Nat, k ≤ n1 ∧ i = .int .i64 k ∧ wr.rowIs w.heap.size 3 n1 (filled 0 fb fo k) ∧ Below w.heap.size w wr) (fun i _ => n1 - (intOf i).toNat)
  case atStart => exact ⟨0, Nat.zero_le _, rfl, (World.rowIs_made w (.int .i64 0) n1 3).congr fun i _ => (filled_zero _ _ _ i).symm, (Below.refl _ _).alloc (Nat.le_refl _) _⟩
  case round =>
    obtain ⟨k, hk, rfl, hrow, hbel⟩ := hrel
    by_cases hlt : k < n1
    · have hco := (hbel.cell (p := ⟨b1, o1 + k, none⟩) hB1).trans (HO.out k hlt)
      have hcw := hrow.cell hlt
      have hfr := hrow.frozen k
      have R := hidden hrow
      have BL := hidden hbel
      clear hrow hbel
      rcases Bool.eq_false_or_eq_true (fo k != -1) with hA | hA
      · go_wp2
        go_roundw
        case rel => exact ⟨k + 1, by omega, by go_num, filled_put R.out (fill_past (by omega)), BL.out.setCell (Nat.le_refl _) _⟩
        case measure => simp [intOf]; omega
      · go_wp2
        go_roundw
        case rel => exact ⟨k + 1, by omega, by go_num, filled_put R.out (fill_wild hA), BL.out.setCell (Nat.le_refl _) _⟩
        case measure => simp [intOf]; omega
    · go_wp2
      go_ret
      exact ⟨rfl, hrow.congr (fun i hi => filled_all _ _ _ _ i (by omega)), hbel⟩

set_option maxHeartbeats 800000 in
theorem fill_none (a0 a1 : Option Addr) (n0 c0 c1 : Nat) (f : Nat → Value) (w : World) :
    Calls Try.prog 10 #[.slice a0 n0 c0, .slice a1 0 c1] w fun e w' => e = .returned (.slice (some ⟨w.heap.size, 0, none⟩) 0 0) ∧ w'.rowIs w.heap.size 3 0 f ∧ Below w.heap.size w w' := by
  have hmk := run_make_row' (P := Try.prog) 23 3 (.int .i64 0) 8 Try.underlying23 Try.info3 rfl .i64 .i64 0 (by omega) (by omega)
  simp only [Int.natCast_zero] at hmk
  have M := hidden (World.rowIs_made w (.int .i64 0) 0 3)
  go_enter Try.func10, Try.ntmps10
  go_wp2
  refine wp_loop_rounds 1 ?_
  rw [rounds_succ]
  go_wp2
  go_ret
  exact ⟨rfl, M.out.congr (fun i hi => absurd hi (by omega)), (Below.refl _ _).alloc (Nat.le_refl _) _⟩

theorem fill_any (a0 a1 : Option Addr) (n0 c0 n1 c1 : Nat) (fb fo : Nat → Int) (w : World) (h0 : Row .u8 w a0 n0 fb) (h1 : Row .i64 w a1 n1 fo) (hn : n1 ≤ 1048576) (hr : ∀ i, i < n0 → 0 ≤ fb i ∧ fb i ≤ 255) :
    Calls Try.prog 10 #[.slice a0 n0 c0, .slice a1 n1 c1] w fun e w' => e = .returned (.slice (some ⟨w.heap.size, 0, none⟩) n1 n1) ∧ w'.rowIs w.heap.size 3 n1 (fun i => .int .i64 (fill n0 fb fo i)) ∧ Below w.heap.size w w' := by
  by_cases z1 : n1 = 0
  · subst z1
    exact fill_none a0 a1 n0 c0 c1 _ w
  · rcases h1 with rfl | ⟨b1, o1, rfl, ho⟩
    · exact absurd rfl z1
    · have hB1 := World.block_lt_of_cell? w _ (ho 0 (by omega))
      by_cases z0 : n0 = 0
      · subst z0
        exact fill_nob a0 b1 o1 c0 n1 c1 fb fo w hn hB1 ho
      · rcases h0 with rfl | ⟨b0, o0, rfl, hb⟩
        · exact absurd rfl z0
        · exact fill_some b0 o0 b1 o1 n0 c0 n1 c1 fb fo w hn (World.block_lt_of_cell? w _ (hb 0 (by omega))) hB1 hb ho hr
end Go.Proofs.Qxb6618057a
