/- Laws on startsWith's plain function at one entry made a wildcard, at all, at one broken. -/
import Derived.Test.Qxb6618057aCuts
import Derived.Laws.BitsLemmas
namespace Go.Proofs.Qxb6618057a
open Go.ChangeShapes Go.WideShapes Go.ChangeAt Go.RowKit

/-- f with entry i set to x -/
def putAt (f : Nat → Int) (i : Nat) (x : Int) (k : Nat) : Int := if k = i then x else f k

theorem sw_wild (n m i : Nat) (fb fo : Nat → Int) (hi : i < m) (hin : i ≤ n) :
    sw n m fb fo = (sw n m fb (putAt fo i (-1)) && sw (n - i) 1 (fun k => fb (i + k)) (fun k => fo (i + k))) := by
  apply bool_ext
  rw [Bool.and_eq_true, sw_iff, sw_iff, sw_iff]
  constructor
  · intro h
    refine ⟨⟨h.1, fun k hk => ?_⟩, by omega, fun k hk => h.2 (i + k) (by omega)⟩
    unfold putAt
    by_cases e : k = i
    · rw [if_pos e]; exact .inl rfl
    · rw [if_neg e]; exact h.2 k hk
  · intro h
    refine ⟨h.1.1, fun k hk => ?_⟩
    by_cases e : k = i
    · have := h.2.2 0 (by omega)
      rwa [Nat.add_zero, ← e] at this
    · have := h.1.2 k hk
      unfold putAt at this
      rwa [if_neg e] at this
theorem sw_all (n m : Nat) (fb : Nat → Int) : sw n m fb (fun _ => -1) = decide (m ≤ n) := by
  apply bool_ext
  rw [sw_iff, decide_eq_true_iff]
  exact ⟨fun h => h.1, fun h => ⟨h, fun _ _ => .inl rfl⟩⟩
theorem all_ne (n m : Nat) (fb : Nat → Int) : (sw n m fb (fun _ => -1) != decide (m ≤ n)) = false := by
  rw [sw_all]; simp
theorem and255 (n : Int) : bits .and .i64 n 255 = n % 256 := by
  have h255 : (BitVec.ofInt 64 255).toNat = 2 ^ 8 - 1 := by decide
  have key : (BitVec.ofInt 64 n &&& BitVec.ofInt 64 255).toNat = (n % ((2 ^ 64 : Nat) : Int)).toNat % 2 ^ 8 := by
    rw [BitVec.toNat_and, BitVec.toNat_ofInt, h255, Nat.and_two_pow_sub_one_eq_mod]
  show IntKind.i64.wrap ((BitVec.ofInt 64 n &&& BitVec.ofInt 64 255).toNat : Nat) = n % 256
  rw [key, IntKind.wrap_i64]
  omega
theorem sw_broken {n m i : Nat} {fb f : Nat → Int} (hi : i < m) : sw n m fb (putAt f i (bits .and .i64 (fb i + 1) 255)) = false := by
  apply sw_no i hi
  · unfold putAt; rw [if_pos rfl, and255]; simp; omega
  · unfold putAt; rw [if_pos rfl, and255]; simp; omega

/-- a row of n numbers, the first k of them f's, the rest 0 -/
def part (f : Nat → Int) (k i : Nat) : Value := if i < k then .int .i64 (f i) else .int .i64 0
theorem part_zero (f : Nat → Int) (i : Nat) : part f 0 i = .int .i64 0 := if_neg (by omega)
theorem part_all (f : Nat → Int) (m i : Nat) (h : i < m) : part f m i = .int .i64 (f i) := if_pos h
theorem part_succ (f : Nat → Int) (k i : Nat) : part f (k + 1) i = if i = k then .int .i64 (f k) else part f k i := by
  unfold part
  by_cases h : i = k
  · subst h; rw [if_pos (by omega), if_pos rfl]
  · rw [if_neg h]
    by_cases h2 : i < k
    · rw [if_pos (by omega), if_pos h2]
    · rw [if_neg (by omega), if_neg h2]
theorem part_put {wr : World} {B n k : Nat} {f : Nat → Int} {x : Int} (h : wr.rowIs B 3 n (part f k)) (e : f k = x) : (wr.setCell ⟨B, k, none⟩ (.int .i64 x)).rowIs B 3 n (part f (k + 1)) :=
  (h.set k _).congr fun i _ => by rw [part_succ, e]
theorem row_put {wr : World} {B n i : Nat} {f : Nat → Int} (x : Int) (h : wr.rowIs B 3 n (fun k => .int .i64 (f k))) : (wr.setCell ⟨B, i, none⟩ (.int .i64 x)).rowIs B 3 n (fun k => .int .i64 (putAt f i x k)) :=
  (h.set i _).congr fun k _ => by unfold putAt; split <;> rfl
/-- a row that was made before, behind more work -/
theorem row_on {w w' : World} {b : Nat} {t : TypeId} {n : Nat} {f : Nat → Value} (h : w.rowIs b t n f) (hb : Below w.heap.size w w') : w'.rowIs b t n f := h.of_block (hb.block _ h.lt)
theorem Row.one {k : IntKind} {w : World} {g n : Nat} {f : Nat → Int} (h : Row k w (some ⟨g, 0, none⟩) n f) (i : Nat) (hi : i < n) : Row k w (some ⟨g, i, none⟩) 1 (fun j => f (i + j)) :=
  (h.cut (a' := some ⟨g, i, none⟩) i fun b off e _ => by cases e; rw [Nat.zero_add]).take (by omega)
theorem below_drewN {B : Nat} {a w : World} (h : Below B a w) (n : Nat) : Below B a (w.drewN n) := h.trans ⟨rfl, rfl, rfl, Nat.le_refl _, fun _ _ => rfl⟩
end Go.Proofs.Qxb6618057a
