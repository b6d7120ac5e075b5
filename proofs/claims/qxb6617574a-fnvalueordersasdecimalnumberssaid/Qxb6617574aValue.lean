/- The walks of value, ZZvalue, pow10mod, positionalSum. -/
import Derived.Test.Qxb6617574aRows
import Derived.Test.Qxb6617574aPlain
import Derived.WalkKit
import Derived.ProofKit
import Derived.WalkSpells
namespace Go.Proofs.Qxb6617574a
open Go.ChangeShapes Go.WideShapes Go.ChangeAt Go.RowKit Money

theorem ret_int {k : IntKind} {a b : Int} (h : a = b) : Ending.returned (.int k a) = .returned (.int k b) := by rw [h]
theorem ret_bool {a b : Bool} (h : a = b) : Ending.returned (.bool a) = .returned (.bool b) := by rw [h]
theorem val_int {k : IntKind} {a b : Int} (h : a = b) : Value.int k a = .int k b := by rw [h]
theorem size_list (s : ByteArray) : s.data.toList.length = s.size := rfl
theorem take_snoc (s : ByteArray) (k : Nat) (h : k < s.size) : s.data.toList.take (k + 1) = s.data.toList.take k ++ [s[k]] := by
  rw [List.take_succ_eq_append_getElem (by simpa using h)]; rfl
theorem drop_cons (s : ByteArray) (k : Nat) (h : k < s.size) : s.data.toList.drop k = s[k] :: s.data.toList.drop (k + 1) := by
  rw [List.drop_eq_getElem_cons (by simpa using h)]; rfl
theorem wrap_m64 (x : Int) : IntKind.u64.wrap x = m64 x := by
  simp [IntKind.wrap, IntKind.bits, IntKind.signed, m64]
theorem value_step (s : ByteArray) (k : Nat) (h : k < s.size) :
    IntKind.u64.wrap (IntKind.u64.wrap (m64 (V (s.data.toList.take k)) * 10) + ((s[k].toNat : Int) - 48) % 256) = m64 (V (s.data.toList.take (k + 1))) := by
  rw [wrap_m64, wrap_m64, take_snoc s k h, V_snoc, m64_step]; rfl
theorem sum_round (s : ByteArray) (k : Nat) (h : k < s.size) :
    IntKind.u64.wrap (m64 (V (s.data.toList.drop (k + 1))) + IntKind.u64.wrap (((s[k].toNat : Int) - 48) % 256 * m64 (10 ^ (s.size - (k + 1))))) = m64 (V (s.data.toList.drop k)) := by
  rw [wrap_m64, wrap_m64, drop_cons s k h, ← sum_step]
  have : (s.data.toList.drop (k + 1)).length = s.size - (k + 1) := by rw [List.length_drop, size_list]
  rw [this]; rfl
theorem pow_round (n : Nat) : IntKind.u64.wrap (m64 (10 ^ n) * 10) = m64 (10 ^ (n + 1)) := by
  rw [wrap_m64, m64_ten, Int.pow_succ]

set_option maxHeartbeats 400000 in
theorem value_any (s : ByteArray) (w : World) (hs : s.size ≤ maxLen) :
    Calls Try.prog 12 #[.string s] w fun e w' => e = .returned (.int .u64 (m64 (V s.data.toList))) ∧ w' = w := by
  unfold maxLen at hs
  go_enter Try.func12, Try.ntmps12
  go_wp2
  go_loop [3, 7] (fun n i => ∃ k : Nat, k ≤ s.size ∧ i = .int .i64 k ∧ n = .int .u64 (m64 (V (s.data.toList.take k)))) (fun _ i => s.size - (intOf i).toNat)
  case atStart => exact ⟨0, Nat.zero_le _, rfl, rfl⟩
  case round =>
    obtain ⟨k, hk, rfl, rfl⟩ := hrel
    by_cases hlt : k < s.size
    · go_wp2
      go_round
      case rel => exact ⟨k + 1, by omega, by go_num, val_int (value_step s k hlt)⟩
      case measure => simp [intOf]; omega
    · go_wp2
      go_ret
      exact ⟨ret_int (by rw [List.take_of_length_le (by simp; omega)]), rfl⟩

theorem zzvalue_any (s : ByteArray) (w : World) (hs : s.size ≤ maxLen) :
    Calls Try.prog 6 #[.string s] w fun e w' => e = .returned (.int .u64 (m64 (V s.data.toList))) ∧ w' = w := by
  go_enter Try.func6, Try.ntmps6
  go_wp2_with (go_at_call 12; refine (value_any _ _ hs).mono ?_; rintro e w' ⟨rfl, rfl⟩)
  go_ret
  exact ⟨rfl, rfl⟩

set_option maxHeartbeats 400000 in
theorem pow_any (n : Nat) (w : World) (hn : n ≤ 1048576) :
    Calls Try.prog 7 #[.int .i64 n] w fun e w' => e = .returned (.int .u64 (m64 (10 ^ n))) ∧ w' = w := by
  go_enter Try.func7, Try.ntmps7
  go_wp2
  go_loop [3, 4] (fun p i => ∃ k : Nat, k ≤ n ∧ i = .int .i64 k ∧ p = .int .u64 (m64 (10 ^ k))) (fun _ i => n - (intOf i).toNat)
  case atStart => exact ⟨0, Nat.zero_le _, rfl, rfl⟩
  case round =>
    obtain ⟨k, hk, rfl, rfl⟩ := hrel
    by_cases hlt : k < n
    · go_wp2
      go_round
      case rel => exact ⟨k + 1, by omega, by go_num, val_int (pow_round k)⟩
      case measure => simp [intOf]; omega
    · go_wp2
      go_ret
      exact ⟨ret_int (by rw [show k = n by omega]), rfl⟩

theorem pow_int (x : Int) (w : World) (h0 : 0 ≤ x) (h : x ≤ 1048576) :
    Calls Try.prog 7 #[.int .i64 x] w fun e w' => e = .returned (.int .u64 (m64 (10 ^ x.toNat))) ∧ w' = w := by
  obtain ⟨n, rfl⟩ : ∃ n : Nat, x = n := ⟨x.toNat, by omega⟩
  exact pow_any n w (by omega)

set_option maxHeartbeats 400000 in
theorem sum_any (s : ByteArray) (w : World) (hs : s.size ≤ maxLen) :
    Calls Try.prog 8 #[.string s] w fun e w' => e = .returned (.int .u64 (m64 (V s.data.toList))) ∧ w' = w := by
  unfold maxLen at hs
  go_enter Try.func8, Try.ntmps8
  go_wp2
  go_loop [3, 4, 5] (fun n p i => ∃ k : Nat, k ≤ s.size ∧ i = .int .i64 ((k : Int) - 1) ∧ n = .int .u64 (m64 (V (s.data.toList.drop k))) ∧ p = .int .u64 (m64 (10 ^ (s.size - k)))) (fun _ _ i => (intOf i + 1).toNat)
  case atStart => exact ⟨s.size, Nat.le_refl _, rfl, by rw [List.drop_of_length_le (by rw [size_list]; exact Nat.le_refl _)]; rfl, by rw [Nat.sub_self]; rfl⟩
  case round =>
    obtain ⟨k, hk, rfl, rfl, rfl⟩ := hrel
    by_cases hlt : 0 < k
    · obtain ⟨j, rfl⟩ : ∃ j, k = j + 1 := ⟨k - 1, by omega⟩
      go_wp2
      go_round
      case rel => exact ⟨j, by omega, rfl, val_int (sum_round s j (by omega)), val_int (by rw [pow_round, show s.size - (j + 1) + 1 = s.size - j by omega])⟩
      case measure => simp [intOf]
    · go_wp2
      go_ret
      exact ⟨ret_int (by rw [show k = 0 by omega]; rfl), rfl⟩

theorem joins_ne (s : ByteArray) (n : Nat) :
    (m64 (V s.data.toList) != IntKind.u64.wrap (IntKind.u64.wrap (m64 (V (s.data.toList.take n)) * m64 (10 ^ (s.size - n))) + m64 (V (List.take (s.size - n) (s.data.toList.drop n))))) = false := by
  have hl : (s.data.toList.drop n).length = s.size - n := by rw [List.length_drop, size_list]
  have ht : List.take (s.size - n) (s.data.toList.drop n) = s.data.toList.drop n := List.take_of_length_le (by rw [hl]; exact Nat.le_refl _)
  rw [ht, wrap_m64, wrap_m64, ← hl, ← join, List.take_append_drop]
  simp
end Go.Proofs.Qxb6617574a
