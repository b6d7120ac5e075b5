/- strings.HasPrefix asked for two bytes. -/
import Derived.Test.Qxb6618184aRows
import Derived.Test.Qxb6618184aPlain
import Derived.WalkKit
import Derived.ProofKit
import Derived.WalkSpells
import Derived.Lib.Strings
namespace Go.Proofs.Qxb6618184a
open Go.ChangeShapes Go.WideShapes Go.ChangeAt Go.RowKit Comment

theorem ret_bool {a b : Bool} (h : a = b) : Ending.returned (.bool a) = .returned (.bool b) := by rw [h]
theorem ret_int {k : IntKind} {a b : Int} (h : a = b) : Ending.returned (.int k a) = .returned (.int k b) := by rw [h]
theorem val_int {k : IntKind} {a b : Int} (h : a = b) : Value.int k a = .int k b := by rw [h]
theorem hidden {p : Prop} (h : p) : Hid p := h
theorem size_list (s : ByteArray) : s.data.toList.length = s.size := rfl

theorem take_two (t : ByteArray) (c d : UInt8) : ((t.extract 0 2).toList == [c, d]) = decide (t.data.toList.take 2 = [c, d]) := by
  rw [Lib.extract_toList, List.drop_zero]
  rw [Bool.eq_iff_iff, beq_iff_eq, decide_eq_true_iff]
theorem take_few (t : ByteArray) (c d : UInt8) (h : t.size < 2) : false = decide (t.data.toList.take 2 = [c, d]) := by
  symm
  apply decide_eq_false
  intro e
  have := congrArg List.length e
  rw [List.length_take, size_list] at this
  simp at this
  omega

theorem hp_in (t : ByteArray) (c d : UInt8) (w : World) (ht : t.size ≤ maxLen) :
    Calls Try.prog 30 #[.string t, .string ⟨#[c, d]⟩] w fun e w' => e = .returned (.bool (decide (t.data.toList.take 2 = [c, d]))) ∧ w' = w := by
  unfold maxLen at ht
  by_cases h : 2 ≤ t.size
  · go_enter Try.func30, Try.ntmps30
    go_wp2
    go_ret
    exact ⟨ret_bool (take_two t c d), rfl⟩
  · go_enter Try.func30, Try.ntmps30
    go_wp2
    go_ret
    exact ⟨ret_bool (take_few t c d (by omega)), rfl⟩

/-- HasPrefix(s[i:], cd): the two bytes stand at i -/
theorem hp_any (s : ByteArray) (i : Nat) (c d : UInt8) (w : World) (hs : s.size ≤ 1048576) :
    Calls Try.prog 28 #[.string (s.extract i s.size), .string ⟨#[c, d]⟩] w fun e w' => e = .returned (.bool (at2 s.data.toList i c d)) ∧ w' = w := by
  have e : at2 s.data.toList i c d = decide ((s.extract i s.size).data.toList.take 2 = [c, d]) := by
    rw [Lib.extract_data, List.take_of_length_le (l := List.drop i s.data.toList) (by rw [List.length_drop, size_list]; omega)]; rfl
  rw [e]
  have H := hidden (hp_in (s.extract i s.size) c d w (by unfold maxLen; simp; omega))
  clear e
  generalize s.extract i s.size = t at *
  go_enter Try.func28, Try.ntmps28
  go_wp2_with fail
  refine H.out.mono ?_
  rintro e w' ⟨rfl, rfl⟩
  go_wp2
  go_ret
  exact ⟨rfl, rfl⟩
end Go.Proofs.Qxb6618184a
