/- The count of allowed runes in a window: the plain law, the walk of zzOverlap. -/
import Derived.Test.Qxb6618057aRunes
namespace Go.Proofs.Qxb6618057a
open Go.ChangeShapes Go.WideShapes Go.ChangeAt Go.RowKit

def cnt (lo : Int) : Nat → Int
  | 0 => 0
  | k + 1 => cnt lo k + if alw (lo + k) = true then 1 else 0
theorem cnt_bd (lo : Int) (k : Nat) : 0 ≤ cnt lo k ∧ cnt lo k ≤ k := by
  induction k with
  | zero => simp [cnt]
  | succ k ih => rw [cnt]; split <;> omega
theorem cnt_yes (lo : Int) (k : Nat) (h : alw (lo + k) = true) : cnt lo (k + 1) = cnt lo k + 1 := by rw [cnt, if_pos h]
theorem cnt_no (lo : Int) (k : Nat) (h : alw (lo + k) = false) : cnt lo (k + 1) = cnt lo k := by rw [cnt, if_neg (by rw [h]; decide)]; omega

/-- how many integers lie in both [f, l] and [a, c] -/
def ovl (f l a c : Int) : Int :=
  if (if c < l then c else l) < (if f < a then a else f) then 0 else (if c < l then c else l) - (if f < a then a else f) + 1
def one (x a c : Int) : Int := if a ≤ x ∧ x ≤ c then 1 else 0
theorem one_or (x a c : Int) : (a ≤ x ∧ x ≤ c ∧ one x a c = 1) ∨ (¬ (a ≤ x ∧ x ≤ c) ∧ one x a c = 0) := by
  unfold one; split <;> simp_all
theorem ovl_none (f a c : Int) : ovl f (f - 1) a c = 0 := by
  unfold ovl; rw [if_pos (by split <;> split <;> omega)]
theorem ovl_step (f l a c : Int) (h : f ≤ l + 1) (hac : a ≤ c) : ovl f (l + 1) a c = ovl f l a c + one (l + 1) a c := by
  unfold ovl one
  repeat' split
  all_goals omega
theorem ovl_bd (f l a c : Int) (h : f ≤ l + 1) : 0 ≤ ovl f l a c ∧ ovl f l a c ≤ l + 1 - f := by
  unfold ovl
  repeat' split
  all_goals omega

def want (f l : Int) : Int :=
  ovl f l 0 1114111 - ovl f l 55296 57343 - ovl f l 0 31 - ovl f l 127 159 + ovl f l 9 9 + ovl f l 10 10 + ovl f l 13 13 + ovl f l 133 133 - ovl f l 65534 65535
theorem ones (x : Int) : one x 0 1114111 - one x 55296 57343 - one x 0 31 - one x 127 159 + one x 9 9 + one x 10 10 + one x 13 13 + one x 133 133 - one x 65534 65535 = if alw x = true then 1 else 0 := by
  have h1 := one_or x 0 1114111
  have h2 := one_or x 55296 57343
  have h3 := one_or x 0 31
  have h4 := one_or x 127 159
  have h5 := one_or x 9 9
  have h6 := one_or x 10 10
  have h7 := one_or x 13 13
  have h8 := one_or x 133 133
  have h9 := one_or x 65534 65535
  unfold alw
  simp only [decide_eq_true_eq]
  split <;> omega
theorem cnt_want (lo : Int) (n : Nat) : cnt lo n = want lo (lo + n - 1) := by
  induction n with
  | zero => rw [cnt]; unfold want; simp only [Int.natCast_zero, Int.add_zero, ovl_none]; rfl
  | succ n ih =>
    rw [cnt, ih, ← ones (lo + n), show lo + ((n + 1 : Nat) : Int) - 1 = (lo + n - 1) + 1 by omega]
    unfold want
    rw [ovl_step _ _ 0 1114111 (by omega) (by omega), ovl_step _ _ 55296 57343 (by omega) (by omega), ovl_step _ _ 0 31 (by omega) (by omega), ovl_step _ _ 127 159 (by omega) (by omega), ovl_step _ _ 9 9 (by omega) (by omega), ovl_step _ _ 10 10 (by omega) (by omega), ovl_step _ _ 13 13 (by omega) (by omega), ovl_step _ _ 133 133 (by omega) (by omega), ovl_step _ _ 65534 65535 (by omega) (by omega)]
    rw [show lo + (n : Int) - 1 + 1 = lo + n by omega]
    omega

theorem window_eq (lo : Int) (k : Nat) :
    (cnt lo k == ovl lo (lo + k - 1) 0 1114111 - ovl lo (lo + k - 1) 55296 57343 - ovl lo (lo + k - 1) 0 31 - ovl lo (lo + k - 1) 127 159 + ovl lo (lo + k - 1) 9 9 + ovl lo (lo + k - 1) 10 10 + ovl lo (lo + k - 1) 13 13 + ovl lo (lo + k - 1) 133 133 - ovl lo (lo + k - 1) 65534 65535) = true := by
  rw [beq_iff_eq, cnt_want]; rfl

set_option maxHeartbeats 800000 in
theorem overlap_any (f l a c : Int) (w : World) (hf : -4294967296 ≤ f ∧ f ≤ 4294967296) (hl : -4294967296 ≤ l ∧ l ≤ 4294967296) (ha : -4294967296 ≤ a ∧ a ≤ 4294967296) (hc : -4294967296 ≤ c ∧ c ≤ 4294967296) :
    Calls Try.prog 13 #[.int .i64 f, .int .i64 l, .int .i64 a, .int .i64 c] w fun e w' => e = .returned (.int .i64 (ovl f l a c)) ∧ w' = w := by
  by_cases h1 : f < a
  all_goals by_cases h2 : c < l
  all_goals
    go_enter Try.func13, Try.ntmps13
    go_wp2
    all_goals
      go_ret
      refine ⟨ret_int ?_, rfl⟩
      unfold ovl
      first | rw [if_pos h1] | rw [if_neg (by omega : ¬ f < a)]
      first | rw [if_pos h2] | rw [if_neg (by omega : ¬ c < l)]
      first | rw [if_pos (by omega)] | rw [if_neg (by omega)]
end Go.Proofs.Qxb6618057a
