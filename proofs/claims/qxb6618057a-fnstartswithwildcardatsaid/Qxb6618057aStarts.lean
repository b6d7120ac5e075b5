/- startsWith: the plain function over rows of numbers, the laws on it, the walk. -/
import Derived.Test.Qxb6618057aRunes
import Derived.Deep.OwnRows
namespace Go.Proofs.Qxb6618057a
open Go.ChangeShapes Go.WideShapes Go.ChangeAt Go.RowKit

theorem hidden {p : Prop} (h : p) : Hid p := h

/-- a slice of n numbers of kind k lies at a: number i is f i (of an empty one nothing is said) -/
def Row (k : IntKind) (w : World) (a : Option Addr) (n : Nat) (f : Nat → Int) : Prop :=
  n = 0 ∨ ∃ b off, a = some ⟨b, off, none⟩ ∧ ∀ i, i < n → w.cell? ⟨b, off + i, none⟩ = some (.int k (f i))

/-- the n numbers fb start with the m entries fo, -1 being a wildcard -/
def sw (n m : Nat) (fb fo : Nat → Int) : Bool := decide (m ≤ n ∧ ∀ i, i < m → fo i = -1 ∨ fb i = fo i)
theorem sw_short {n m : Nat} {fb fo : Nat → Int} (h : n < m) : sw n m fb fo = false := decide_eq_false (by omega)
theorem sw_yes {n m : Nat} {fb fo : Nat → Int} (h : m ≤ n) (h2 : ∀ i, i < m → fo i = -1 ∨ fb i = fo i) : sw n m fb fo = true := decide_eq_true ⟨h, h2⟩
theorem sw_no {n m : Nat} {fb fo : Nat → Int} (k : Nat) (h : k < m) (h1 : (fo k != -1) = true) (h2 : (fb k != fo k) = true) : sw n m fb fo = false :=
  decide_eq_false fun hh => by
    rcases hh.2 k h with e | e
    · simp [e] at h1
    · simp [e] at h2
theorem sw_iff (n m : Nat) (fb fo : Nat → Int) : sw n m fb fo = true ↔ m ≤ n ∧ ∀ i, i < m → fo i = -1 ∨ fb i = fo i := decide_eq_true_iff

theorem upto_wild {k : Nat} {fb fo : Nat → Int} (h : ∀ i, i < k → fo i = -1 ∨ fb i = fo i) (h1 : (fo k != -1) = false) : ∀ i, i < k + 1 → fo i = -1 ∨ fb i = fo i := by
  intro i hi
  by_cases e : i = k
  · subst e; exact .inl (by simpa using h1)
  · exact h i (by omega)
theorem upto_same {k : Nat} {fb fo : Nat → Int} (h : ∀ i, i < k → fo i = -1 ∨ fb i = fo i) (h1 : (fb k != fo k) = false) : ∀ i, i < k + 1 → fo i = -1 ∨ fb i = fo i := by
  intro i hi
  by_cases e : i = k
  · subst e; exact .inr (by simpa using h1)
  · exact h i (by omega)

set_option maxHeartbeats 400000 in
theorem starts_short (a0 a1 : Option Addr) (n0 c0 n1 c1 : Nat) (w : World) (h : n0 < n1) :
    Calls Try.prog 16 #[.slice a0 n0 c0, .slice a1 n1 c1] w fun e w' => e = .returned (.bool false) ∧ w' = w := by
  go_enter Try.func16, Try.ntmps16
  go_wp2
  go_ret
  exact ⟨rfl, rfl⟩

set_option maxHeartbeats 400000 in
theorem starts_none (a0 a1 : Option Addr) (n0 c0 c1 : Nat) (w : World) :
    Calls Try.prog 16 #[.slice a0 n0 c0, .slice a1 0 c1] w fun e w' => e = .returned (.bool true) ∧ w' = w := by
  go_enter Try.func16, Try.ntmps16
  go_wp2
  refine wp_loop_rounds 1 ?_
  rw [rounds_succ]
  go_wp2
  go_ret
  exact ⟨rfl, rfl⟩

set_option maxHeartbeats 800000 in
theorem starts_some (b0 o0 b1 o1 n0 c0 n1 c1 : Nat) (fb fo : Nat → Int) (w : World) (h : n1 ≤ n0) (hn : n1 ≤ 1048576)
    (hb : ∀ i, i < n0 → w.cell? ⟨b0, o0 + i, none⟩ = some (.int .u8 (fb i))) (ho : ∀ i, i < n1 → w.cell? ⟨b1, o1 + i, none⟩ = some (.int .i64 (fo i)))
    (hr : ∀ i, i < n0 → 0 ≤ fb i ∧ fb i ≤ 255) :
    Calls Try.prog 16 #[.slice (some ⟨b0, o0, none⟩) n0 c0, .slice (some ⟨b1, o1, none⟩) n1 c1] w fun e w' => e = .returned (.bool (sw n0 n1 fb fo)) ∧ w' = w := by
  have HB := hidden hb
  have HO := hidden ho
  have HR := hidden hr
  clear hb ho hr
  go_enter Try.func16, Try.ntmps16
  go_wp2
  go_loop [14] (fun i => ∃ k : Nat, k ≤ n1 ∧ i = .int .i64 k ∧ Hid (∀ i, i < k → fo i = -1 ∨ fb i = fo i)) (fun i => n1 - (intOf i).toNat)
  case atStart => exact ⟨0, Nat.zero_le _, rfl, fun i hi => absurd hi (by omega)⟩
  case round =>
    obtain ⟨k, hk, rfl, H⟩ := hrel
    by_cases hlt : k < n1
    · have hlt0 : k < n0 := by omega
      have hcb := HB.out k (by omega)
      have hco := HO.out k hlt
      have hbd := HR.out k (by omega)
      rcases Bool.eq_false_or_eq_true (fo k != -1) with hA | hA
      · rcases Bool.eq_false_or_eq_true (fb k != fo k) with hB | hB
        · go_wp2
          go_ret
          exact ⟨ret_bool (sw_no k hlt hA hB).symm, rfl⟩
        · go_wp2
          go_round
          case rel => exact ⟨k + 1, by omega, by go_num, upto_same H.out hB⟩
          case measure => simp [intOf]; omega
      · go_wp2
        go_round
        case rel => exact ⟨k + 1, by omega, by go_num, upto_wild H.out hA⟩
        case measure => simp [intOf]; omega
    · go_wp2
      go_ret
      exact ⟨ret_bool (sw_yes h (by rw [show n1 = k by omega]; exact H.out)).symm, rfl⟩
end Go.Proofs.Qxb6618057a
