/- allowed: the plain function, the laws on it, and its walk. -/
import Derived.Test.Qxb6618057aRows
import Derived.WalkKit
import Derived.ProofKit
import Derived.WalkSpells
import Derived.Laws.BitsLemmas
namespace Go.Proofs.Qxb6618057a
open Go.ChangeShapes Go.WideShapes Go.ChangeAt Go.RowKit

theorem ret_bool {a b : Bool} (h : a = b) : Ending.returned (.bool a) = .returned (.bool b) := by rw [h]
theorem ret_int {k : IntKind} {a b : Int} (h : a = b) : Ending.returned (.int k a) = .returned (.int k b) := by rw [h]
theorem val_int {k : IntKind} {a b : Int} (h : a = b) : Value.int k a = .int k b := by rw [h]

/-- the runes that are allowed -/
def alw (r : Int) : Bool := decide (r = 9 ∨ r = 10 ∨ r = 13 ∨ r = 133 ∨ (32 ≤ r ∧ r < 127) ∨ (160 ≤ r ∧ r ≤ 55295) ∨ (57344 ≤ r ∧ r ≤ 65533) ∨ (65536 ≤ r ∧ r ≤ 1114111))
theorem alw_yes {r : Int} (h : r = 9 ∨ r = 10 ∨ r = 13 ∨ r = 133 ∨ (32 ≤ r ∧ r < 127) ∨ (160 ≤ r ∧ r ≤ 55295) ∨ (57344 ≤ r ∧ r ≤ 65533) ∨ (65536 ≤ r ∧ r ≤ 1114111)) : alw r = true := decide_eq_true h
theorem alw_no {r : Int} (h : ¬ (r = 9 ∨ r = 10 ∨ r = 13 ∨ r = 133 ∨ (32 ≤ r ∧ r < 127) ∨ (160 ≤ r ∧ r ≤ 55295) ∨ (57344 ≤ r ∧ r ≤ 65533) ∨ (65536 ≤ r ∧ r ≤ 1114111))) : alw r = false := decide_eq_false h

set_option maxHeartbeats 800000 in
theorem allowed_any (r : Int) (w : World) (_h0 : -2147483648 ≤ r) (_h1 : r ≤ 2147483647) :
    Calls Try.prog 17 #[.int .i32 r] w fun e w' => e = .returned (.bool (alw r)) ∧ w' = w := by
  have hx : (r == 133) = true ∨ (r == 133) = false := by cases (r == 133) <;> simp
  by_cases htop : r ≤ 1114111
  · rcases hx with hx | hx
    all_goals
      go_enter Try.func17, Try.ntmps17
      go_wp2
      all_goals
        go_ret
        refine ⟨ret_bool ?_, rfl⟩
        simp only [beq_iff_eq, beq_eq_false_iff_ne, ne_eq] at *
        symm
        first | exact alw_yes (by omega) | exact alw_no (by omega)
  · rcases hx with hx | hx
    · exact absurd (by simpa using hx : r = 133) (by omega)
    · go_enter Try.func17, Try.ntmps17
      go_wp2
      all_goals
        go_ret
        refine ⟨ret_bool ?_, rfl⟩
        simp only [beq_iff_eq, beq_eq_false_iff_ne, ne_eq] at *
        symm
        first | exact alw_no (by omega) | (exfalso; omega)

theorem zzallowed_any (r : Int) (w : World) (h0 : -2147483648 ≤ r) (h1 : r ≤ 2147483647) :
    Calls Try.prog 12 #[.int .i32 r] w fun e w' => e = .returned (.bool (alw r)) ∧ w' = w := by
  go_enter Try.func12, Try.ntmps12
  go_wp2_with (go_at_call 17; refine (allowed_any _ _ h0 h1).mono ?_; rintro e w' ⟨rfl, rfl⟩)
  go_ret
  exact ⟨rfl, rfl⟩
theorem zzallowed_no (r : Int) (w : World) (h0 : 55296 ≤ r) (h1 : r ≤ 57343) :
    Calls Try.prog 12 #[.int .i32 r] w fun e w' => e = .returned (.bool false) ∧ w' = w := by
  have h := zzallowed_any r w (by omega) (by omega)
  rw [alw_no (by omega)] at h
  exact h
theorem zzallowed_yes (r : Int) (w : World) (h0 : 65536 ≤ r) (h1 : r ≤ 1114111) :
    Calls Try.prog 12 #[.int .i32 r] w fun e w' => e = .returned (.bool true) ∧ w' = w := by
  have h := zzallowed_any r w (by omega) (by omega)
  rw [alw_yes (by omega)] at h
  exact h

theorem and1023 (n : Int) : bits .and .i32 n 1023 = n % 1024 := by
  have h127 : (BitVec.ofInt 32 1023).toNat = 2 ^ 10 - 1 := by decide
  have key : (BitVec.ofInt 32 n &&& BitVec.ofInt 32 1023).toNat = (n % ((2 ^ 32 : Nat) : Int)).toNat % 2 ^ 10 := by
    rw [BitVec.toNat_and, BitVec.toNat_ofInt, h127, Nat.and_two_pow_sub_one_eq_mod]
  show IntKind.i32.wrap ((BitVec.ofInt 32 n &&& BitVec.ofInt 32 1023).toNat : Nat) = n % 1024
  rw [key, IntKind.wrap_i32]
  omega
theorem or_hi (n : Int) : 55296 ≤ bits .or .i32 55296 (bits .and .i32 n 1023) ∧ bits .or .i32 55296 (bits .and .i32 n 1023) ≤ 57343 := by
  rw [and1023, bits_join .i32 31 (by decide) wraps_i32 10 55296 (n % 1024) (by decide) (by decide) (by decide) (by omega) (by omega) (by omega)]
  omega
theorem or_lo (n : Int) : 55296 ≤ bits .or .i32 56320 (bits .and .i32 n 1023) ∧ bits .or .i32 56320 (bits .and .i32 n 1023) ≤ 57343 := by
  rw [and1023, bits_join .i32 31 (by decide) wraps_i32 10 56320 (n % 1024) (by decide) (by decide) (by decide) (by omega) (by omega) (by omega)]
  omega
end Go.Proofs.Qxb6618057a
